import JvmDerived
import JvmDerived.Pilot.@@N@@Statement
import JvmDerived.Pilot.@@N@@Code
set_option linter.unusedVariables false
set_option linter.unusedSimpArgs false
namespace Jvm.RoadKit
open Sem ClassFile Op Lib Jvm.Stand Jvm.Free Jvm.LawKit
section New
variable {p : Program} {l : Launch} {e : Env} {R : Room} {s : State} {m : MethodId} {args : Array Value} {below : List Frame} {meth : Method} {c : Code} {T : State} {locs : List Loc} {cells slots : Nat}
theorem retI (X : Stand p l e R s m args below meth c T locs cells slots) (hx : p.tables.exec = Jvm.exec) {pc : Nat} {Ls : Array Slot} {z : Int32} {rest : List Value} (hret : meth.sig.returnType = some .int) (hd : decode c.code pc = .ok (.ireturn, 1)) {fs : List Frame}
    (hl : ∀ (f : JFrame) (acts : List Action), f.method = m → f.locked = none → f.entered = [] → (doReturn e (T.setTop f) acts (some (.int z))).1 = T.setFrames fs) : Steps p.tables e below (T.setTop (mkF m pc Ls (.int z :: rest))) (T.setFrames fs) := by
  have hm' : T.vm.method? m = some meth := X.method'
  have hn : narrow .int (.int z) = .int z := rfl
  show Steps p.tables e below (T.setTop { method := m, pc := pc, locals := Ls, stack := _ :: rest, locked := none }) _
  jvm_step X.here [X.here.top, hx, hd, hm', hret, hn]
  first | (intro acts; rw [hl _ acts rfl rfl rfl]) | rw [hl _ _ rfl rfl rfl]
  exact Steps.refl _
/-- a boolean, byte, char or short that is one already -/
theorem own_retB (X : Stand p l e R s m args below meth c T locs cells slots) (hx : p.tables.exec = Jvm.exec) {pc : Nat} {Ls : Array Slot} {z : Int32} {t : FieldType} {rest : List Value} (hret : meth.sig.returnType = some t) (ht : t = .boolean ∨ t = .byte ∨ t = .char ∨ t = .short) (hz : nar t z = z)
    (hd : decode c.code pc = .ok (.ireturn, 1)) {fs : List Frame} (hl : ∀ (f : JFrame) (acts : List Action), f.method = m → f.locked = none → f.entered = [] → (doReturn e (T.setTop f) acts (some (.int z))).1 = T.setFrames fs) :
    Steps p.tables e below (T.setTop (mkF m pc Ls (.int z :: rest))) (T.setFrames fs) := retN X hx hret ht hd (by rw [hz]; exact hl)
theorem own_retL (X : Stand p l e R s m args below meth c T locs cells slots) (hx : p.tables.exec = Jvm.exec) {pc : Nat} {Ls : Array Slot} {z : Int64} {rest : List Value} (hret : meth.sig.returnType = some .long) (hd : decode c.code pc = .ok (.lreturn, 1)) {fs : List Frame}
    (hl : ∀ (f : JFrame) (acts : List Action), f.method = m → f.locked = none → f.entered = [] → (doReturn e (T.setTop f) acts (some (.long z))).1 = T.setFrames fs) : Steps p.tables e below (T.setTop (mkF m pc Ls (.long z :: rest))) (T.setFrames fs) :=
  retOut X hx hret rfl (Or.inr (Or.inl ⟨rfl, rfl, z, rfl⟩)) hd hl
end New
end Jvm.RoadKit
namespace Jvm.Pilot.@@N@@
open Jvm Jvm.ClassFile Sem Op Lib Jvm.Free Jvm.Stand Jvm.LawKit Jvm.RoadKit Bundle Jvm.Pilot.@@N@@.Jvm.D
theorem own_w {a0 : Array Value} {Z : State} (hw : ∀ d ∈ tables_1, d.before a0 Z = true) (i : Nat) {d : Jvm.Cond} (h : tables_1[i]? = some d) : d.before a0 Z = true := hw _ (List.mem_of_getElem? h)
/-- from A the walk comes to an end that P takes -/
abbrev own_R (tb : Tables) (e : Env) (below : List Frame) (P : State → Outcome → Prop) (A : State) : Prop := ∃ t o, Steps tb e below A t ∧ t.status = .running ∧ Ended t below o ∧ P t o
abbrev own_P (s : State) (Q : Option Value → Heap → List Loc → Prop) (k n : Nat) (t : State) (o : Outcome) : Prop := ∃ v L, o = .returned v ∧ Q v t.heap L ∧ FrameEnd s o t L k n
abbrev own_PW (s : State) (Q : Option Value → Heap → List Loc → Prop) (k n : Nat) (t : State) (o : Outcome) : Prop := ∃ v L, o = .returned v ∧ Q v t.heap L ∧ ReturnedEndW s o t L k n
theorem own_step {tb : Tables} {e : Env} {below : List Frame} {P : State → Outcome → Prop} {A A' : State} (st : ∀ t, Steps tb e below A' t → Steps tb e below A t) (h : own_R tb e below P A') : own_R tb e below P A := by
  obtain ⟨t, o, h1, h2⟩ := h
  exact ⟨t, o, st t h1, h2⟩
theorem own_go {tb : Tables} {e : Env} {below : List Frame} {P : State → Outcome → Prop} {A A' : State} (st : Steps tb e below A A') (h : own_R tb e below P A') : own_R tb e below P A := own_step (fun _ k => st.trans k) h
theorem own_f {tb : Tables} {e : Env} {below : List Frame} {P : State → Outcome → Prop} {A : State} (T : State) (g : JFrame) (st : ∀ t, Steps tb e below (T.setTop g) t → Steps tb e below A t) (h : own_R tb e below P (T.setTop g)) : own_R tb e below P A := own_step st h
theorem own_g {tb : Tables} {e : Env} {below : List Frame} {P : State → Outcome → Prop} {A : State} (T : State) (g : JFrame) (st : Steps tb e below A (T.setTop g)) (h : own_R tb e below P (T.setTop g)) : own_R tb e below P A := own_go st h
theorem own_lsw {tb : Tables} [Ours tb] {e : Env} {below : List Frame} {T target : State} {m : MethodId} {c : Code} {g : JFrame} (h : At T m c below) (hx : tb.exec = Jvm.exec) (hg : g.method = m) {df : Int} {ps : Array (Int × Int)} {len : Nat} {o : Int} {pc0 pc' : Nat} (hpc : g.pc = pc0) (hd : decode c.code g.pc = .ok (.lookupswitch df ps, len)) {i : Int32} {rest : List Value} (hs : g.stack = .int i :: rest)
    (hord : (ps.toList.zip (ps.toList.drop 1)).all (fun (a, next) => a.1 < next.1) = true) (hoff : lookupswitch.offset ps.toList df i.toInt = o) (ho : 0 ≤ (pc0 : Int) + o) (hp : ((pc0 : Int) + o).toNat = pc')
    (hr : Steps tb e below (T.setTop { g with pc := pc', stack := rest }) target) : Steps tb e below (T.setTop g) target := by
  subst hg hpc hp
  jvm_step h [h.top, hx, hd, hs, hoff, ho, lookupswitch.wp_chain]
  exact ⟨by simpa using hord, hr⟩
theorem own_len {p : Program} {l : Launch} {e : Env} {R : Room} {s : State} {m : MethodId} {args : Array Value} {below : List Frame} {meth : Method} {c : Code} {T target : State} {locs : List Loc} {cells slots : Nat} {Z : State} {h : Heap} {a : Addr} {k : ClassId} {ty : FieldType} {z : Int32} {vs : List Value} {dv : Value}
    (X : Stand p l e R s m args below meth c T locs cells slots) (hx : p.tables.exec = Jvm.exec) (hZ : Z.Warmed39 s.vm) (eT : T.heap = h) (F : Arv Z h a k ty z vs dv) {g : JFrame} (hg : g.method = m) {rest : List Value} (hs : g.stack = .ref a :: rest) (hd : decode c.code g.pc = .ok (.arraylength, 1))
    (hr : Steps p.tables e below (T.setTop { g with pc := g.pc + 1, stack := .int z :: rest }) target) : Steps p.tables e below (T.setTop g) target := by
  obtain ⟨cl, A, -, S, q, -⟩ := F
  exact X.arraylength hx (by rw [eT]; exact A.1) (State.isArrayOf_alike hZ.alike A.2.1) hg hs hd _ (by rw [len_of S q]; exact hr)
theorem own_arvnew {Z : State} {h : Heap} {a : Addr} {k : ClassId} {ty : FieldType} {z : Int32} (n : Nat) (A : Arr Z h a (newA k ty z) ty) (q : ¬ z < 0) : Arv Z h a k ty z (List.replicate n (defaultValue ty)) (defaultValue ty) := (Arv.new A q).pad fun i => pad_rep [] _ n i
theorem own_narB (x : Int32) : nar .byte x.toInt8.toInt32 = x.toInt8.toInt32 := by show x.toInt8.toInt32.toInt8.toInt32 = _; simp
theorem own_narC (x : Int32) : nar .char x.toUInt32.toUInt16.toUInt32.toInt32 = x.toUInt32.toUInt16.toUInt32.toInt32 := by show x.toUInt32.toUInt16.toUInt32.toInt32.toUInt32.toUInt16.toUInt32.toInt32 = _; simp only [UInt32.toUInt32_toInt32, UInt16.toUInt16_toUInt32]
theorem own_fitB (x : Int32) : fits .byte (.int (nar .byte x)) = true := fits_nar_byte x
theorem own_nb {z : Int32} (h : z = 0 ∨ z = 1) : narrow .boolean (.int z) = .int z := by rcases h with rfl | rfl <;> rfl
theorem own_fb {z : Int32} (h : z = 0 ∨ z = 1) : fits .boolean (.int z) = true := by rcases h with rfl | rfl <;> rfl
theorem own_nar {z : Int32} (h : z = 0 ∨ z = 1) : nar .boolean z = z := by rcases h with rfl | rfl <;> rfl
def own_mn (a b : Int64) : Int64 := if b < a then b else a
def own_mx (a b : Int64) : Int64 := if a < b then b else a
def own_ge (hi t : Int64) : Int32 := if t < hi then 0 else 1
theorem own_lohi (a b : Int64) : ¬ ((own_mx a b) < (own_mn a b)) := by
  unfold own_mx own_mn
  simp only [Int64.lt_iff_toInt_lt]
  split <;> split <;> omega
def own_C (Z : State) (h : Heap) : Prop := ∃ (ca : Addr) (c : Cell), Sta Z h "java/lang/Long$LongCache" "cache" "[Ljava/lang/Long;" (.ref ca) ∧ Arr Z h ca c (.object "java/lang/Long") ∧
  ∀ w : Int64, ¬ w < (-128 : Int64) → ¬ (127 : Int64) < w → ∃ b : Addr, ¬ (((w.toInt32) + (128 : Int32)) < 0 ∨ c.slots.size ≤ ((w.toInt32) + (128 : Int32)).toNatClampNeg) ∧ c.slots[((w.toInt32) + (128 : Int32)).toNatClampNeg]? = some (.ref b) ∧ Exa Z h b "java/lang/Long" ∧ Fld Z h b "java/lang/Long" "value" "J" (.long w)
theorem own_C.ext {Z : State} {h h' : Heap} (F : own_C Z h) (E : Ext h h') : own_C Z h' := by
  obtain ⟨ca, c, S, A, H⟩ := F
  refine ⟨ca, c, S.ext E, A.ext E, fun w h1 h2 => ?_⟩
  obtain ⟨b, g1, g2, g3, g4⟩ := H w h1 h2
  exact ⟨b, g1, g2, g3.ext E, g4.ext E⟩
theorem own_cache {s : State} {args : Array Value} (hf : Fit s) (hs : ∀ d ∈ LongBox.longClinit, d.before args s = true) (hl : (Jvm.Cond.laysFinal "java/lang/Long" "java/lang/Long" "value" "J").before args s = true) : own_C s s.heap := by
  obtain ⟨cL, k, cf, kf, i, f, hc, hk, hfd, hst, -, has, how, -⟩ := Cond.laysFinal_spec hl
  obtain rfl : cL = cf := Option.some.inj (hc.symm.trans how)
  obtain ⟨⟨fCa, st, cS, arr, cA⟩, -, -, -, -, ⟨cc, kc, ic, b1, b2, b3⟩, b4, b5, b6, b7, b8, b9, b10, H⟩ := LongBox.statics_fwd 0 ((conj_holds (args := args) (first := s) (o := none) (s := s) (idx := []) _ _).mpr ⟨rfl, hs⟩) hc hfd hst
  dsimp only at b1 b3 b4 b5 b6 b7 b8 b9 b10 H
  obtain ⟨v, ev, -⟩ := static_fit hf (hs _ (List.mem_of_getElem? (i := 0) rfl)) (ty := .array (.object "java/lang/Long")) (by decide)
  have S := Sta.start ev (Or.inl (hs _ (List.mem_of_getElem? (i := 1) rfl)))
  have hv : v = .ref arr := by
    obtain ⟨x1, x2, x3, x4, x5, x6, y1, y2, y3, y4, y5, y6, y7⟩ := id S
    rw [b1] at y1; cases y1
    rw [b3] at y4; cases y4
    rw [b5] at y5; cases y5
    rw [b7] at y7; exact (Option.some.inj y7).symm
  subst hv
  have hall := Cond.all_elim ev (IntBox.arrayAt_of b8 b10 b9) (Cond.before_iff.mp (hs _ (List.mem_of_getElem? (i := 5) rfl)))
  refine ⟨arr, cA, S, ⟨b8, b10, b9⟩, fun w h1 h2 => ?_⟩
  obtain ⟨b, cB, g1, g2, g3, g4, g5, g6, g7⟩ := H w h1 h2
  obtain ⟨hex, -⟩ := and_e (hall _ (Array.getElem?_eq_some_iff.mp g2).1)
  refine ⟨b, g1, g2, ?_, ⟨cB, cL, kf, i, f, g3, hfd, hst, g5, g6, by rw [g4]; exact has, g7⟩⟩
  obtain ⟨hnn, hback⟩ := IntBox.place_nonneg _ (LongBox.place_okL w h1 h2).2
  have ei : LongBox.cacheT.eval args s none [(w.toInt32 + 128).toNatClampNeg] s = some (.ref arr) := ev
  exact exa_at (by simp [Term.eval, ei, hnn, IntBox.arrayAt_of b8 b10 b9, hback, g2]) hex
theorem pd__J : parseMethodDescriptor "()J" = some ⟨[], some .long⟩ := by decide +kernel
theorem pd__V : parseMethodDescriptor "()V" = some ⟨[], none⟩ := by decide +kernel
theorem pd__J_Ljava_lang_Long_ : parseMethodDescriptor "(J)Ljava/lang/Long;" = some ⟨[.long], some (.object "java/lang/Long")⟩ := by decide +kernel
theorem pd__J_V : parseMethodDescriptor "(J)V" = some ⟨[.long], none⟩ := by decide +kernel
theorem pd__J_Z : parseMethodDescriptor "(J)Z" = some ⟨[.long], some .boolean⟩ := by decide +kernel
theorem pd__JJ_J : parseMethodDescriptor "(JJ)J" = some ⟨[.long, .long], some .long⟩ := by decide +kernel
theorem pd__Ljava_lang_Long_Ljava_lang_Long_V : parseMethodDescriptor "(Ljava/lang/Long;Ljava/lang/Long;)V" = some ⟨[(.object "java/lang/Long"), (.object "java/lang/Long")], none⟩ := by decide +kernel
theorem d2_0 : decode jdk_30_method_1_code 0 = .ok (.aload_n 0, 1) := by decide +kernel
theorem d2_1 : decode jdk_30_method_1_code 1 = .ok (.invokespecial 1, 3) := by decide +kernel
theorem d2_4 : decode jdk_30_method_1_code 4 = .ok (.return_, 1) := by decide +kernel
theorem pn_2 : plainName "java/lang/Record" = true := by first | (simp [plainName, overriddenIn]; done) | decide +kernel
theorem ef_2 (m : MethodId) (x0 : Addr) : entryFrame m #[(.ref x0)] 1 = mkF m 0 #[.val (.ref x0)] [] := by first | (simp [entryFrame, mkF, argsToLocals, Value.category]; done) | rfl
def Q2 (Z : State) (a1 : Addr) (h0 : Heap) (n0 : Nat) (v : Option Value) (h : Heap) (L : List Loc) : Prop := v = none ∧ Fr n0 L ∧ h = h0
set_option maxRecDepth 65536 in
set_option maxHeartbeats 40000000 in
theorem rm2 (l : Launch) (Z : State) (a0 : Array Value) (hw : ∀ d ∈ tables_1, d.before a0 Z = true) (ws : List Jvm.Cond) (a1 : Addr) (h0 : Heap) (n0 : Nat) (Z0 : n0 ≤ h0.size) :
    MetFree l (⟨"java/lang/Record", "<init>", "()V"⟩ : MethodName) (head1 (Jvm.Cond.code (⟨"java/lang/Record", "<init>", "()V"⟩ : MethodName) jdk_30_method_1_code 1 none :: ws) ({ frames := 1, cells := 0, slots := 0, locals := 12 } : Room)) (fun a U => a = #[(.ref a1)] ∧ Z.Warmed39 U.vm ∧ U.heap = h0) (fun _ _ _ _ _ => True) (fun _ U o U' => ∃ v L, o = .returned v ∧ Q2 Z a1 h0 n0 v U'.heap L ∧ FrameEnd U o U' L ({ frames := 1, cells := 0, slots := 0, locals := 12 } : Room).cells ({ frames := 1, cells := 0, slots := 0, locals := 12 } : Room).slots) := by
  refine MetFree.of_bodySF (plainFor_of_name pn_2) hisR ?_
  intro p e s m args below meth c s₁ Bd hml0 hP hK
  obtain ⟨rfl, hZ, hh⟩ := hP
  have hx := Bd.exec
  have hby := Bd.bytes
  have hml : c.maxLocals = 1 := hml0
  have hown : s.vm.findClass "java/lang/Record" = some m.cls := findClass_of_methodNamed Bd.named
  have hnm := (name_of_methodNamed Bd.named Bd.method).1
  have X0 : Stand p l e ({ frames := 1, cells := 0, slots := 0, locals := 12 } : Room) s m #[(.ref a1)] below meth c s₁ [] 0 0 := Stand.of_body Bd
  have e0 : s₁.heap = h0 := by rw [← hh, Bd.state]; rfl
  have N0 := Fr.nil n0
  show own_R p.tables e below (own_P s (Q2 Z a1 h0 n0) ({ frames := 1, cells := 0, slots := 0, locals := 12 } : Room).cells ({ frames := 1, cells := 0, slots := 0, locals := 12 } : Room).slots) (s₁.setTop (entryFrame m #[(.ref a1)] 1))
  refine own_f s₁ (mkF m 0 #[.val (.ref a1)] []) (fun t k => castTop (ef_2 m a1) k) ?_
  refine own_f s₁ (mkF m 1 #[.val (.ref a1)] [(.ref a1)]) (fun t k => XS.aloadN X0.here hx rfl (hb hby d2_0) rfl rfl k) ?_
  obtain ⟨T1, X1, e1, st1⟩ := initO X0 hx hZ hown (own_w hw 26 rfl) (own_w hw 27 rfl) (own_w hw 28 rfl) e0 (g := (mkF m 1 #[.val (.ref a1)] [(.ref a1)])) rfl (by rw [hml]; rfl) rfl (hb hby d2_1) (by decide) (W := 0) (by show 2 * 0 + _ ≤ _; exact Nat.le_of_eq rfl) (by decide)
  refine own_f T1 (mkF m 4 #[.val (.ref a1)] []) st1 ?_
  obtain ⟨fs, hr, hrun, hended, hW, hsame⟩ := X1.leave (v := none) (fun _ => rfl)
  refine ⟨_, _, X1.returnOut hx Bd.returns (hb hby d2_4) hr, hrun, hended, _, _, rfl, ?_, ⟨_, rfl⟩, hW, hsame.mono (by decide) (by decide)⟩
  show Q2 Z a1 h0 n0 _ T1.heap _
  rw [e1]
  exact ⟨rfl, N0, rfl⟩
theorem d3_0 : decode jdk_18_method_1_code 0 = .ok (.aload_n 0, 1) := by decide +kernel
theorem d3_1 : decode jdk_18_method_1_code 1 = .ok (.invokespecial 1, 3) := by decide +kernel
theorem d3_4 : decode jdk_18_method_1_code 4 = .ok (.return_, 1) := by decide +kernel
theorem pn_3 : plainName "java/lang/Number" = true := by first | (simp [plainName, overriddenIn]; done) | decide +kernel
theorem ef_3 (m : MethodId) (x0 : Addr) : entryFrame m #[(.ref x0)] 1 = mkF m 0 #[.val (.ref x0)] [] := by first | (simp [entryFrame, mkF, argsToLocals, Value.category]; done) | rfl
def Q3 (Z : State) (a1 : Addr) (h0 : Heap) (n0 : Nat) (v : Option Value) (h : Heap) (L : List Loc) : Prop := v = none ∧ Fr n0 L ∧ h = h0
set_option maxRecDepth 65536 in
set_option maxHeartbeats 40000000 in
theorem rm3 (l : Launch) (Z : State) (a0 : Array Value) (hw : ∀ d ∈ tables_1, d.before a0 Z = true) (ws : List Jvm.Cond) (a1 : Addr) (h0 : Heap) (n0 : Nat) (Z0 : n0 ≤ h0.size) :
    MetFree l (⟨"java/lang/Number", "<init>", "()V"⟩ : MethodName) (head1 (Jvm.Cond.code (⟨"java/lang/Number", "<init>", "()V"⟩ : MethodName) jdk_18_method_1_code 1 none :: ws) ({ frames := 1, cells := 0, slots := 0, locals := 12 } : Room)) (fun a U => a = #[(.ref a1)] ∧ Z.Warmed39 U.vm ∧ U.heap = h0) (fun _ _ _ _ _ => True) (fun _ U o U' => ∃ v L, o = .returned v ∧ Q3 Z a1 h0 n0 v U'.heap L ∧ FrameEnd U o U' L ({ frames := 1, cells := 0, slots := 0, locals := 12 } : Room).cells ({ frames := 1, cells := 0, slots := 0, locals := 12 } : Room).slots) := by
  refine MetFree.of_bodySF (plainFor_of_name pn_3) hisR ?_
  intro p e s m args below meth c s₁ Bd hml0 hP hK
  obtain ⟨rfl, hZ, hh⟩ := hP
  have hx := Bd.exec
  have hby := Bd.bytes
  have hml : c.maxLocals = 1 := hml0
  have hown : s.vm.findClass "java/lang/Number" = some m.cls := findClass_of_methodNamed Bd.named
  have hnm := (name_of_methodNamed Bd.named Bd.method).1
  have X0 : Stand p l e ({ frames := 1, cells := 0, slots := 0, locals := 12 } : Room) s m #[(.ref a1)] below meth c s₁ [] 0 0 := Stand.of_body Bd
  have e0 : s₁.heap = h0 := by rw [← hh, Bd.state]; rfl
  have N0 := Fr.nil n0
  show own_R p.tables e below (own_P s (Q3 Z a1 h0 n0) ({ frames := 1, cells := 0, slots := 0, locals := 12 } : Room).cells ({ frames := 1, cells := 0, slots := 0, locals := 12 } : Room).slots) (s₁.setTop (entryFrame m #[(.ref a1)] 1))
  refine own_f s₁ (mkF m 0 #[.val (.ref a1)] []) (fun t k => castTop (ef_3 m a1) k) ?_
  refine own_f s₁ (mkF m 1 #[.val (.ref a1)] [(.ref a1)]) (fun t k => XS.aloadN X0.here hx rfl (hb hby d3_0) rfl rfl k) ?_
  obtain ⟨T1, X1, e1, st1⟩ := initO X0 hx hZ hown (own_w hw 50 rfl) (own_w hw 27 rfl) (own_w hw 28 rfl) e0 (g := (mkF m 1 #[.val (.ref a1)] [(.ref a1)])) rfl (by rw [hml]; rfl) rfl (hb hby d3_1) (by decide) (W := 0) (by show 2 * 0 + _ ≤ _; exact Nat.le_of_eq rfl) (by decide)
  refine own_f T1 (mkF m 4 #[.val (.ref a1)] []) st1 ?_
  obtain ⟨fs, hr, hrun, hended, hW, hsame⟩ := X1.leave (v := none) (fun _ => rfl)
  refine ⟨_, _, X1.returnOut hx Bd.returns (hb hby d3_4) hr, hrun, hended, _, _, rfl, ?_, ⟨_, rfl⟩, hW, hsame.mono (by decide) (by decide)⟩
  show Q3 Z a1 h0 n0 _ T1.heap _
  rw [e1]
  exact ⟨rfl, N0, rfl⟩
theorem d4_0 : decode jdk_29_method_70_code 0 = .ok (.lload_n 0, 1) := by decide +kernel
theorem d4_1 : decode jdk_29_method_70_code 1 = .ok (.lload_n 2, 1) := by decide +kernel
theorem d4_2 : decode jdk_29_method_70_code 2 = .ok (.lcmp, 1) := by decide +kernel
theorem d4_3 : decode jdk_29_method_70_code 3 = .ok (.ifCond .gt 7, 3) := by decide +kernel
theorem d4_6 : decode jdk_29_method_70_code 6 = .ok (.lload_n 0, 1) := by decide +kernel
theorem d4_7 : decode jdk_29_method_70_code 7 = .ok (.goto 4, 3) := by decide +kernel
theorem d4_10 : decode jdk_29_method_70_code 10 = .ok (.lload_n 2, 1) := by decide +kernel
theorem d4_11 : decode jdk_29_method_70_code 11 = .ok (.lreturn, 1) := by decide +kernel
theorem pn_4 : plainFor (⟨"java/lang/Math", "min", "(JJ)J"⟩ : MethodName) = true := by decide +kernel
theorem ef_4 (m : MethodId) (x0 : Int64) (x1 : Int64) : entryFrame m #[(.long x0), (.long x1)] 4 = mkF m 0 #[.val (.long x0), .second, .val (.long x1), .second] [] := by first | (simp [entryFrame, mkF, argsToLocals, Value.category]; done) | rfl
def Q4 (Z : State) (q1 : Int64) (q2 : Int64) (h0 : Heap) (n0 : Nat) (v : Option Value) (h : Heap) (L : List Loc) : Prop := v = some (.long (own_mn q1 q2)) ∧ Fr n0 L ∧ h = h0
set_option maxRecDepth 65536 in
set_option maxHeartbeats 40000000 in
theorem rm4 (l : Launch) (Z : State) (a0 : Array Value) (hw : ∀ d ∈ tables_1, d.before a0 Z = true) (ws : List Jvm.Cond) (q1 : Int64) (q2 : Int64) (h0 : Heap) (n0 : Nat) (Z0 : n0 ≤ h0.size) :
    MetFree l (⟨"java/lang/Math", "min", "(JJ)J"⟩ : MethodName) (head1 (Jvm.Cond.code (⟨"java/lang/Math", "min", "(JJ)J"⟩ : MethodName) jdk_29_method_70_code 4 (some .long) :: ws) ({ frames := 0, cells := 0, slots := 0, locals := 0 } : Room)) (fun a U => a = #[(.long q1), (.long q2)] ∧ Z.Warmed39 U.vm ∧ U.heap = h0) (fun _ _ _ _ _ => True) (fun _ U o U' => ∃ v L, o = .returned v ∧ Q4 Z q1 q2 h0 n0 v U'.heap L ∧ FrameEnd U o U' L ({ frames := 0, cells := 0, slots := 0, locals := 0 } : Room).cells ({ frames := 0, cells := 0, slots := 0, locals := 0 } : Room).slots) := by
  refine MetFree.of_bodySF pn_4 hisR ?_
  intro p e s m args below meth c s₁ Bd hml0 hP hK
  obtain ⟨rfl, hZ, hh⟩ := hP
  have hx := Bd.exec
  have hby := Bd.bytes
  have hml : c.maxLocals = 4 := hml0
  have hown : s.vm.findClass "java/lang/Math" = some m.cls := findClass_of_methodNamed Bd.named
  have hnm := (name_of_methodNamed Bd.named Bd.method).1
  have X0 : Stand p l e ({ frames := 0, cells := 0, slots := 0, locals := 0 } : Room) s m #[(.long q1), (.long q2)] below meth c s₁ [] 0 0 := Stand.of_body Bd
  have e0 : s₁.heap = h0 := by rw [← hh, Bd.state]; rfl
  have N0 := Fr.nil n0
  show own_R p.tables e below (own_P s (Q4 Z q1 q2 h0 n0) ({ frames := 0, cells := 0, slots := 0, locals := 0 } : Room).cells ({ frames := 0, cells := 0, slots := 0, locals := 0 } : Room).slots) (s₁.setTop (entryFrame m #[(.long q1), (.long q2)] 4))
  refine own_f s₁ (mkF m 0 #[.val (.long q1), .second, .val (.long q2), .second] []) (fun t k => castTop (ef_4 m q1 q2) k) ?_
  refine own_f s₁ (mkF m 1 #[.val (.long q1), .second, .val (.long q2), .second] [(.long q1)]) (fun t k => XS.lloadN X0.here hx rfl (hb hby d4_0) rfl k) ?_
  refine own_f s₁ (mkF m 2 #[.val (.long q1), .second, .val (.long q2), .second] [(.long q2), (.long q1)]) (fun t k => XS.lloadN X0.here hx rfl (hb hby d4_1) rfl k) ?_
  refine own_f s₁ (mkF m 3 #[.val (.long q1), .second, .val (.long q2), .second] [(.int (XT.cmpL q1 q2))]) (fun t k => XT.lcmp X0.here hx rfl (hb hby d4_2) rfl k) ?_
  by_cases hc1 : q2 < q1
  · skip
    refine own_f s₁ (mkF m 10 #[.val (.long q1), .second, .val (.long q2), .second] []) (fun t k => XS.ifYes X0.here hx rfl (pc0 := 3) (pc' := 10) rfl (hb hby d4_3) rfl (XT.ll_gt_t hc1) (by decide) (by decide) k) ?_
    refine own_f s₁ (mkF m 11 #[.val (.long q1), .second, .val (.long q2), .second] [(.long q2)]) (fun t k => XS.lloadN X0.here hx rfl (hb hby d4_10) rfl k) ?_
    obtain ⟨fs, hr, hrun, hended, hW, hsame⟩ := X0.leave (v := some (.long q2)) (fun h => by rw [Bd.returns] at h; cases h)
    refine ⟨_, _, own_retL X0 hx Bd.returns (hb hby d4_11) hr, hrun, hended, _, _, rfl, ?_, ⟨_, rfl⟩, hW, hsame.mono (by decide) (by decide)⟩
    show Q4 Z q1 q2 h0 n0 _ s₁.heap _
    rw [e0]
    exact ⟨by rw [own_mn, if_pos hc1], N0, rfl⟩
  · skip
    refine own_f s₁ (mkF m 6 #[.val (.long q1), .second, .val (.long q2), .second] []) (fun t k => XS.ifNo X0.here hx rfl (hb hby d4_3) rfl (XT.ll_gt_f hc1) k) ?_
    refine own_f s₁ (mkF m 7 #[.val (.long q1), .second, .val (.long q2), .second] [(.long q1)]) (fun t k => XS.lloadN X0.here hx rfl (hb hby d4_6) rfl k) ?_
    refine own_f s₁ (mkF m 11 #[.val (.long q1), .second, .val (.long q2), .second] [(.long q1)]) (fun t k => XS.goto X0.here hx rfl (pc0 := 7) (pc' := 11) rfl (hb hby d4_7) (by decide) (by decide) k) ?_
    obtain ⟨fs, hr, hrun, hended, hW, hsame⟩ := X0.leave (v := some (.long q1)) (fun h => by rw [Bd.returns] at h; cases h)
    refine ⟨_, _, own_retL X0 hx Bd.returns (hb hby d4_11) hr, hrun, hended, _, _, rfl, ?_, ⟨_, rfl⟩, hW, hsame.mono (by decide) (by decide)⟩
    show Q4 Z q1 q2 h0 n0 _ s₁.heap _
    rw [e0]
    exact ⟨by rw [own_mn, if_neg hc1], N0, rfl⟩
theorem d5_0 : decode jdk_29_method_66_code 0 = .ok (.lload_n 0, 1) := by decide +kernel
theorem d5_1 : decode jdk_29_method_66_code 1 = .ok (.lload_n 2, 1) := by decide +kernel
theorem d5_2 : decode jdk_29_method_66_code 2 = .ok (.lcmp, 1) := by decide +kernel
theorem d5_3 : decode jdk_29_method_66_code 3 = .ok (.ifCond .lt 7, 3) := by decide +kernel
theorem d5_6 : decode jdk_29_method_66_code 6 = .ok (.lload_n 0, 1) := by decide +kernel
theorem d5_7 : decode jdk_29_method_66_code 7 = .ok (.goto 4, 3) := by decide +kernel
theorem d5_10 : decode jdk_29_method_66_code 10 = .ok (.lload_n 2, 1) := by decide +kernel
theorem d5_11 : decode jdk_29_method_66_code 11 = .ok (.lreturn, 1) := by decide +kernel
theorem pn_5 : plainFor (⟨"java/lang/Math", "max", "(JJ)J"⟩ : MethodName) = true := by decide +kernel
theorem ef_5 (m : MethodId) (x0 : Int64) (x1 : Int64) : entryFrame m #[(.long x0), (.long x1)] 4 = mkF m 0 #[.val (.long x0), .second, .val (.long x1), .second] [] := by first | (simp [entryFrame, mkF, argsToLocals, Value.category]; done) | rfl
def Q5 (Z : State) (q1 : Int64) (q2 : Int64) (h0 : Heap) (n0 : Nat) (v : Option Value) (h : Heap) (L : List Loc) : Prop := v = some (.long (own_mx q1 q2)) ∧ Fr n0 L ∧ h = h0
set_option maxRecDepth 65536 in
set_option maxHeartbeats 40000000 in
theorem rm5 (l : Launch) (Z : State) (a0 : Array Value) (hw : ∀ d ∈ tables_1, d.before a0 Z = true) (ws : List Jvm.Cond) (q1 : Int64) (q2 : Int64) (h0 : Heap) (n0 : Nat) (Z0 : n0 ≤ h0.size) :
    MetFree l (⟨"java/lang/Math", "max", "(JJ)J"⟩ : MethodName) (head1 (Jvm.Cond.code (⟨"java/lang/Math", "max", "(JJ)J"⟩ : MethodName) jdk_29_method_66_code 4 (some .long) :: ws) ({ frames := 0, cells := 0, slots := 0, locals := 0 } : Room)) (fun a U => a = #[(.long q1), (.long q2)] ∧ Z.Warmed39 U.vm ∧ U.heap = h0) (fun _ _ _ _ _ => True) (fun _ U o U' => ∃ v L, o = .returned v ∧ Q5 Z q1 q2 h0 n0 v U'.heap L ∧ FrameEnd U o U' L ({ frames := 0, cells := 0, slots := 0, locals := 0 } : Room).cells ({ frames := 0, cells := 0, slots := 0, locals := 0 } : Room).slots) := by
  refine MetFree.of_bodySF pn_5 hisR ?_
  intro p e s m args below meth c s₁ Bd hml0 hP hK
  obtain ⟨rfl, hZ, hh⟩ := hP
  have hx := Bd.exec
  have hby := Bd.bytes
  have hml : c.maxLocals = 4 := hml0
  have hown : s.vm.findClass "java/lang/Math" = some m.cls := findClass_of_methodNamed Bd.named
  have hnm := (name_of_methodNamed Bd.named Bd.method).1
  have X0 : Stand p l e ({ frames := 0, cells := 0, slots := 0, locals := 0 } : Room) s m #[(.long q1), (.long q2)] below meth c s₁ [] 0 0 := Stand.of_body Bd
  have e0 : s₁.heap = h0 := by rw [← hh, Bd.state]; rfl
  have N0 := Fr.nil n0
  show own_R p.tables e below (own_P s (Q5 Z q1 q2 h0 n0) ({ frames := 0, cells := 0, slots := 0, locals := 0 } : Room).cells ({ frames := 0, cells := 0, slots := 0, locals := 0 } : Room).slots) (s₁.setTop (entryFrame m #[(.long q1), (.long q2)] 4))
  refine own_f s₁ (mkF m 0 #[.val (.long q1), .second, .val (.long q2), .second] []) (fun t k => castTop (ef_5 m q1 q2) k) ?_
  refine own_f s₁ (mkF m 1 #[.val (.long q1), .second, .val (.long q2), .second] [(.long q1)]) (fun t k => XS.lloadN X0.here hx rfl (hb hby d5_0) rfl k) ?_
  refine own_f s₁ (mkF m 2 #[.val (.long q1), .second, .val (.long q2), .second] [(.long q2), (.long q1)]) (fun t k => XS.lloadN X0.here hx rfl (hb hby d5_1) rfl k) ?_
  refine own_f s₁ (mkF m 3 #[.val (.long q1), .second, .val (.long q2), .second] [(.int (XT.cmpL q1 q2))]) (fun t k => XT.lcmp X0.here hx rfl (hb hby d5_2) rfl k) ?_
  by_cases hc1 : q1 < q2
  · skip
    refine own_f s₁ (mkF m 10 #[.val (.long q1), .second, .val (.long q2), .second] []) (fun t k => XS.ifYes X0.here hx rfl (pc0 := 3) (pc' := 10) rfl (hb hby d5_3) rfl (XT.ll_lt_t hc1) (by decide) (by decide) k) ?_
    refine own_f s₁ (mkF m 11 #[.val (.long q1), .second, .val (.long q2), .second] [(.long q2)]) (fun t k => XS.lloadN X0.here hx rfl (hb hby d5_10) rfl k) ?_
    obtain ⟨fs, hr, hrun, hended, hW, hsame⟩ := X0.leave (v := some (.long q2)) (fun h => by rw [Bd.returns] at h; cases h)
    refine ⟨_, _, own_retL X0 hx Bd.returns (hb hby d5_11) hr, hrun, hended, _, _, rfl, ?_, ⟨_, rfl⟩, hW, hsame.mono (by decide) (by decide)⟩
    show Q5 Z q1 q2 h0 n0 _ s₁.heap _
    rw [e0]
    exact ⟨by rw [own_mx, if_pos hc1], N0, rfl⟩
  · skip
    refine own_f s₁ (mkF m 6 #[.val (.long q1), .second, .val (.long q2), .second] []) (fun t k => XS.ifNo X0.here hx rfl (hb hby d5_3) rfl (XT.ll_lt_f hc1) k) ?_
    refine own_f s₁ (mkF m 7 #[.val (.long q1), .second, .val (.long q2), .second] [(.long q1)]) (fun t k => XS.lloadN X0.here hx rfl (hb hby d5_6) rfl k) ?_
    refine own_f s₁ (mkF m 11 #[.val (.long q1), .second, .val (.long q2), .second] [(.long q1)]) (fun t k => XS.goto X0.here hx rfl (pc0 := 7) (pc' := 11) rfl (hb hby d5_7) (by decide) (by decide) k) ?_
    obtain ⟨fs, hr, hrun, hended, hW, hsame⟩ := X0.leave (v := some (.long q1)) (fun h => by rw [Bd.returns] at h; cases h)
    refine ⟨_, _, own_retL X0 hx Bd.returns (hb hby d5_11) hr, hrun, hended, _, _, rfl, ?_, ⟨_, rfl⟩, hW, hsame.mono (by decide) (by decide)⟩
    show Q5 Z q1 q2 h0 n0 _ s₁.heap _
    rw [e0]
    exact ⟨by rw [own_mx, if_neg hc1], N0, rfl⟩
theorem d6_0 : decode jdk_35_method_26_code 0 = .ok (.aload_n 0, 1) := by decide +kernel
theorem d6_1 : decode jdk_35_method_26_code 1 = .ok (.invokespecial 270, 3) := by decide +kernel
theorem d6_4 : decode jdk_35_method_26_code 4 = .ok (.aload_n 0, 1) := by decide +kernel
theorem d6_5 : decode jdk_35_method_26_code 5 = .ok (.lload_n 1, 1) := by decide +kernel
theorem d6_6 : decode jdk_35_method_26_code 6 = .ok (.putfield 273, 3) := by decide +kernel
theorem d6_9 : decode jdk_35_method_26_code 9 = .ok (.return_, 1) := by decide +kernel
theorem pn_6 : plainName "java/lang/Long" = true := by first | (simp [plainName, overriddenIn]; done) | decide +kernel
theorem ef_6 (m : MethodId) (x0 : Addr) (x1 : Int64) : entryFrame m #[(.ref x0), (.long x1)] 3 = mkF m 0 #[.val (.ref x0), .val (.long x1), .second] [] := by first | (simp [entryFrame, mkF, argsToLocals, Value.category]; done) | rfl
def Q6 (Z : State) (a1 : Addr) (q2 : Int64) (u0 : Value) (h0 : Heap) (n0 : Nat) (v : Option Value) (h : Heap) (L : List Loc) : Prop := v = none ∧ Fr n0 L ∧ Keep h0 h [a1] ∧ Exa Z h a1 "java/lang/Long" ∧ Fld Z h a1 "java/lang/Long" "value" "J" (.long q2)
set_option maxRecDepth 65536 in
set_option maxHeartbeats 40000000 in
theorem rm6 (l : Launch) (Z : State) (a0 : Array Value) (hw : ∀ d ∈ tables_1, d.before a0 Z = true) (ws : List Jvm.Cond) (a1 : Addr) (q2 : Int64) (u0 : Value) (h0 : Heap) (n0 : Nat) (Z0 : n0 ≤ h0.size) (F0 : Exa Z h0 a1 "java/lang/Long") (F1 : Fld Z h0 a1 "java/lang/Long" "value" "J" u0) (ge_a1 : n0 ≤ a1) :
    MetFree l (⟨"java/lang/Long", "<init>", "(J)V"⟩ : MethodName) (head1 (Jvm.Cond.code (⟨"java/lang/Long", "<init>", "(J)V"⟩ : MethodName) jdk_35_method_26_code 3 none :: ws) ({ frames := 2, cells := 0, slots := 0, locals := 24 } : Room)) (fun a U => a = #[(.ref a1), (.long q2)] ∧ Z.Warmed39 U.vm ∧ U.heap = h0) (fun _ _ _ _ _ => True) (fun _ U o U' => ∃ v L, o = .returned v ∧ Q6 Z a1 q2 u0 h0 n0 v U'.heap L ∧ FrameEnd U o U' L ({ frames := 2, cells := 0, slots := 0, locals := 24 } : Room).cells ({ frames := 2, cells := 0, slots := 0, locals := 24 } : Room).slots) := by
  refine MetFree.of_bodySF (plainFor_of_name pn_6) hisR ?_
  intro p e s m args below meth c s₁ Bd hml0 hP hK
  obtain ⟨rfl, hZ, hh⟩ := hP
  have hx := Bd.exec
  have hby := Bd.bytes
  have hml : c.maxLocals = 3 := hml0
  have hown : s.vm.findClass "java/lang/Long" = some m.cls := findClass_of_methodNamed Bd.named
  have hnm := (name_of_methodNamed Bd.named Bd.method).1
  have X0 : Stand p l e ({ frames := 2, cells := 0, slots := 0, locals := 24 } : Room) s m #[(.ref a1), (.long q2)] below meth c s₁ [] 0 0 := Stand.of_body Bd
  have e0 : s₁.heap = h0 := by rw [← hh, Bd.state]; rfl
  have N0 := Fr.nil n0
  show own_R p.tables e below (own_P s (Q6 Z a1 q2 u0 h0 n0) ({ frames := 2, cells := 0, slots := 0, locals := 24 } : Room).cells ({ frames := 2, cells := 0, slots := 0, locals := 24 } : Room).slots) (s₁.setTop (entryFrame m #[(.ref a1), (.long q2)] 3))
  refine own_f s₁ (mkF m 0 #[.val (.ref a1), .val (.long q2), .second] []) (fun t k => castTop (ef_6 m a1 q2) k) ?_
  refine own_f s₁ (mkF m 1 #[.val (.ref a1), .val (.long q2), .second] [(.ref a1)]) (fun t k => XS.aloadN X0.here hx rfl (hb hby d6_0) rfl rfl k) ?_
  obtain ⟨_, _, ⟨T1, Lq1, kq_1, nq_1⟩, -, X1, ⟨Lc1, hQ1, lq1, yq1, zq1⟩, st1⟩ := X0.specialBack hx (y := (⟨"java/lang/Number", "<init>", "()V"⟩ : MethodName)) rfl hown (mvT hZ (own_w hw 44 rfl)) (mvT hZ (own_w hw 45 rfl)) (mvT hZ (own_w hw 49 rfl)) (by decide) (backOf (W := 0) (rm3 l Z a0 hw [] a1 h0 n0 Z0 ) hZ (own_w hw 49 rfl) (own_w hw 48 rfl) (by decide) (by decide)) (g := (mkF m 1 #[.val (.ref a1), .val (.long q2), .second] [(.ref a1)])) rfl (by rw [hml]; rfl) (Steps.refl _) (a := a1) (argsL := []) (rest := []) (lenOf pd__V rfl) rfl (by show 2 * 0 + _ ≤ _; exact Nat.le_of_eq rfl) (hb hby d6_1) (fun _ _ => ⟨rfl, e0, (by decide : 0 + 0 ≤ _), (by decide : 0 + 0 ≤ _)⟩)
  dsimp only [Pt.U, Pt.locs, Pt.cells, Pt.slots] at X1 lq1 yq1 zq1 st1 hQ1
  subst lq1 yq1 zq1
  obtain ⟨h1, e1⟩ : ∃ z, T1.heap = z := ⟨_, rfl⟩
  rw [e1] at hQ1
  unfold Q3 at hQ1
  obtain ⟨rfl, Nq1, qh1⟩ := hQ1
  have N1 := Fr.app N0 Nq1
  rw [qh1] at e1
  refine own_g T1 (mkF m 4 #[.val (.ref a1), .val (.long q2), .second] []) st1 ?_
  refine own_f T1 (mkF m 5 #[.val (.ref a1), .val (.long q2), .second] [(.ref a1)]) (fun t k => XS.aloadN X1.here hx rfl (hb hby d6_4) rfl rfl k) ?_
  refine own_f T1 (mkF m 6 #[.val (.ref a1), .val (.long q2), .second] [(.long q2), (.ref a1)]) (fun t k => XS.lloadN X1.here hx rfl (hb hby d6_5) rfl k) ?_
  obtain ⟨T2, h2, X2, e2, W2, st2⟩ := putF X1 hx hZ hown (host := "") (Or.inl (own_w hw 51 rfl)) Via.refl e1 F1 F0 (Or.inr ⟨(own_w hw 52 rfl), rfl, hnm⟩) (own_w hw 39 rfl) (ty := .long) (by decide) rfl rfl (g := (mkF m 6 #[.val (.ref a1), .val (.long q2), .second] [(.long q2), (.ref a1)])) rfl rfl (hb hby d6_6)
  have N2 := Fr.snoc X2 N1 ge_a1
  have Zs2 : n0 ≤ h2.size := by rw [W2.size]; exact Z0
  have K2 : Keep h0 h2 [a1] := (Keep.refl h0 [a1]).wr W2 (Or.inl (by simp))
  have F_3 := F0.wr W2
  have F_4 := F1.same W2
  refine own_f T2 (mkF m 9 #[.val (.ref a1), .val (.long q2), .second] []) st2 ?_
  obtain ⟨fs, hr, hrun, hended, hW, hsame⟩ := X2.leave (v := none) (fun _ => rfl)
  refine ⟨_, _, X2.returnOut hx Bd.returns (hb hby d6_9) hr, hrun, hended, _, _, rfl, ?_, ⟨_, rfl⟩, hW, hsame.mono (by decide) (by decide)⟩
  show Q6 Z a1 q2 u0 h0 n0 _ T2.heap _
  rw [e2]
  exact ⟨rfl, N2, K2, F_3, F_4⟩
theorem d7_0 : decode jdk_35_method_31_code 0 = .ok (.aload_n 0, 1) := by decide +kernel
theorem d7_1 : decode jdk_35_method_31_code 1 = .ok (.getfield 273, 3) := by decide +kernel
theorem d7_4 : decode jdk_35_method_31_code 4 = .ok (.lreturn, 1) := by decide +kernel
theorem pn_7 : plainName "java/lang/Long" = true := by first | (simp [plainName, overriddenIn]; done) | decide +kernel
theorem ef_7 (m : MethodId) (x0 : Addr) : entryFrame m #[(.ref x0)] 1 = mkF m 0 #[.val (.ref x0)] [] := by first | (simp [entryFrame, mkF, argsToLocals, Value.category]; done) | rfl
def Q7 (Z : State) (a1 : Addr) (w1 : Int64) (h0 : Heap) (n0 : Nat) (v : Option Value) (h : Heap) (L : List Loc) : Prop := v = some (.long w1) ∧ Fr n0 L ∧ h = h0
set_option maxRecDepth 65536 in
set_option maxHeartbeats 40000000 in
theorem rm7 (l : Launch) (Z : State) (a0 : Array Value) (hw : ∀ d ∈ tables_1, d.before a0 Z = true) (ws : List Jvm.Cond) (a1 : Addr) (w1 : Int64) (h0 : Heap) (n0 : Nat) (Z0 : n0 ≤ h0.size) (F0 : Fld Z h0 a1 "java/lang/Long" "value" "J" (.long w1)) :
    MetFree l (⟨"java/lang/Long", "longValue", "()J"⟩ : MethodName) (head1 (Jvm.Cond.code (⟨"java/lang/Long", "longValue", "()J"⟩ : MethodName) jdk_35_method_31_code 1 (some .long) :: ws) ({ frames := 0, cells := 0, slots := 0, locals := 0 } : Room)) (fun a U => a = #[(.ref a1)] ∧ Z.Warmed39 U.vm ∧ U.heap = h0) (fun _ _ _ _ _ => True) (fun _ U o U' => ∃ v L, o = .returned v ∧ Q7 Z a1 w1 h0 n0 v U'.heap L ∧ FrameEnd U o U' L ({ frames := 0, cells := 0, slots := 0, locals := 0 } : Room).cells ({ frames := 0, cells := 0, slots := 0, locals := 0 } : Room).slots) := by
  refine MetFree.of_bodySF (plainFor_of_name pn_7) hisR ?_
  intro p e s m args below meth c s₁ Bd hml0 hP hK
  obtain ⟨rfl, hZ, hh⟩ := hP
  have hx := Bd.exec
  have hby := Bd.bytes
  have hml : c.maxLocals = 1 := hml0
  have hown : s.vm.findClass "java/lang/Long" = some m.cls := findClass_of_methodNamed Bd.named
  have hnm := (name_of_methodNamed Bd.named Bd.method).1
  have X0 : Stand p l e ({ frames := 0, cells := 0, slots := 0, locals := 0 } : Room) s m #[(.ref a1)] below meth c s₁ [] 0 0 := Stand.of_body Bd
  have e0 : s₁.heap = h0 := by rw [← hh, Bd.state]; rfl
  have N0 := Fr.nil n0
  show own_R p.tables e below (own_P s (Q7 Z a1 w1 h0 n0) ({ frames := 0, cells := 0, slots := 0, locals := 0 } : Room).cells ({ frames := 0, cells := 0, slots := 0, locals := 0 } : Room).slots) (s₁.setTop (entryFrame m #[(.ref a1)] 1))
  refine own_f s₁ (mkF m 0 #[.val (.ref a1)] []) (fun t k => castTop (ef_7 m a1) k) ?_
  refine own_f s₁ (mkF m 1 #[.val (.ref a1)] [(.ref a1)]) (fun t k => XS.aloadN X0.here hx rfl (hb hby d7_0) rfl rfl k) ?_
  obtain ⟨T1, X1, e1, st1⟩ := getF X0 hx hZ hown (host := "") (Or.inl (own_w hw 51 rfl)) Via.refl e0 F0 (g := (mkF m 1 #[.val (.ref a1)] [(.ref a1)])) rfl rfl (hb hby d7_1)
  refine own_f T1 (mkF m 4 #[.val (.ref a1)] [(.long w1)]) st1 ?_
  obtain ⟨fs, hr, hrun, hended, hW, hsame⟩ := X1.leave (v := some (.long w1)) (fun h => by rw [Bd.returns] at h; cases h)
  refine ⟨_, _, own_retL X1 hx Bd.returns (hb hby d7_4) hr, hrun, hended, _, _, rfl, ?_, ⟨_, rfl⟩, hW, hsame.mono (by decide) (by decide)⟩
  show Q7 Z a1 w1 h0 n0 _ T1.heap _
  rw [e1]
  exact ⟨rfl, N0, rfl⟩
theorem d8_0 : decode jdk_35_method_24_code 0 = .ok (.sipush 128, 3) := by decide +kernel
theorem d8_3 : decode jdk_35_method_24_code 3 = .ok (.istore_n 2, 1) := by decide +kernel
theorem d8_4 : decode jdk_35_method_24_code 4 = .ok (.lload_n 0, 1) := by decide +kernel
theorem d8_5 : decode jdk_35_method_24_code 5 = .ok (.ldc2_w 230, 3) := by decide +kernel
theorem d8_8 : decode jdk_35_method_24_code 8 = .ok (.lcmp, 1) := by decide +kernel
theorem d8_9 : decode jdk_35_method_24_code 9 = .ok (.ifCond .lt 22, 3) := by decide +kernel
theorem d8_12 : decode jdk_35_method_24_code 12 = .ok (.lload_n 0, 1) := by decide +kernel
theorem d8_13 : decode jdk_35_method_24_code 13 = .ok (.ldc2_w 232, 3) := by decide +kernel
theorem d8_16 : decode jdk_35_method_24_code 16 = .ok (.lcmp, 1) := by decide +kernel
theorem d8_17 : decode jdk_35_method_24_code 17 = .ok (.ifCond .gt 14, 3) := by decide +kernel
theorem d8_20 : decode jdk_35_method_24_code 20 = .ok (.getstatic 234, 3) := by decide +kernel
theorem d8_23 : decode jdk_35_method_24_code 23 = .ok (.lload_n 0, 1) := by decide +kernel
theorem d8_24 : decode jdk_35_method_24_code 24 = .ok (.l2i, 1) := by decide +kernel
theorem d8_25 : decode jdk_35_method_24_code 25 = .ok (.sipush 128, 3) := by decide +kernel
theorem d8_28 : decode jdk_35_method_24_code 28 = .ok (.iadd, 1) := by decide +kernel
theorem d8_29 : decode jdk_35_method_24_code 29 = .ok (.aaload, 1) := by decide +kernel
theorem d8_30 : decode jdk_35_method_24_code 30 = .ok (.areturn, 1) := by decide +kernel
theorem d8_31 : decode jdk_35_method_24_code 31 = .ok (.new 1, 3) := by decide +kernel
theorem d8_34 : decode jdk_35_method_24_code 34 = .ok (.dup, 1) := by decide +kernel
theorem d8_35 : decode jdk_35_method_24_code 35 = .ok (.lload_n 0, 1) := by decide +kernel
theorem d8_36 : decode jdk_35_method_24_code 36 = .ok (.invokespecial 240, 3) := by decide +kernel
theorem d8_39 : decode jdk_35_method_24_code 39 = .ok (.areturn, 1) := by decide +kernel
theorem pn_8 : plainName "java/lang/Long" = true := by first | (simp [plainName, overriddenIn]; done) | decide +kernel
theorem ef_8 (m : MethodId) (x0 : Int64) : entryFrame m #[(.long x0)] 3 = mkF m 0 #[.val (.long x0), .second, .unset] [] := by first | (simp [entryFrame, mkF, argsToLocals, Value.category]; done) | rfl
def Q8 (Z : State) (q1 : Int64) (h0 : Heap) (n0 : Nat) (v : Option Value) (h : Heap) (L : List Loc) : Prop := ∃ b : Addr, v = some (.ref b) ∧ Fr n0 L ∧ Keep h0 h [] ∧ Exa Z h b "java/lang/Long" ∧ Fld Z h b "java/lang/Long" "value" "J" (.long q1)
set_option maxRecDepth 65536 in
set_option maxHeartbeats 40000000 in
theorem rm8 (l : Launch) (Z : State) (a0 : Array Value) (hw : ∀ d ∈ tables_1, d.before a0 Z = true) (ws : List Jvm.Cond) (q1 : Int64) (h0 : Heap) (n0 : Nat) (Z0 : n0 ≤ h0.size) (F0 : Old Z n0 h0) (HC : own_C Z Z.heap) :
    MetFree l (⟨"java/lang/Long", "valueOf", "(J)Ljava/lang/Long;"⟩ : MethodName) (head1 (Jvm.Cond.code (⟨"java/lang/Long", "valueOf", "(J)Ljava/lang/Long;"⟩ : MethodName) jdk_35_method_24_code 3 (some (.object "java/lang/Long")) :: ws) ({ frames := 3, cells := 1, slots := 1, locals := 39 } : Room)) (fun a U => a = #[(.long q1)] ∧ Z.Warmed39 U.vm ∧ U.heap = h0) (fun _ _ _ _ _ => True) (fun _ U o U' => ∃ v L, o = .returned v ∧ Q8 Z q1 h0 n0 v U'.heap L ∧ FrameEnd U o U' L ({ frames := 3, cells := 1, slots := 1, locals := 39 } : Room).cells ({ frames := 3, cells := 1, slots := 1, locals := 39 } : Room).slots) := by
  refine MetFree.of_bodySF (plainFor_of_name pn_8) hisR ?_
  intro p e s m args below meth c s₁ Bd hml0 hP hK
  obtain ⟨rfl, hZ, hh⟩ := hP
  have hx := Bd.exec
  have hby := Bd.bytes
  have hml : c.maxLocals = 3 := hml0
  have hown : s.vm.findClass "java/lang/Long" = some m.cls := findClass_of_methodNamed Bd.named
  have hnm := (name_of_methodNamed Bd.named Bd.method).1
  have X0 : Stand p l e ({ frames := 3, cells := 1, slots := 1, locals := 39 } : Room) s m #[(.long q1)] below meth c s₁ [] 0 0 := Stand.of_body Bd
  have e0 : s₁.heap = h0 := by rw [← hh, Bd.state]; rfl
  have N0 := Fr.nil n0
  show own_R p.tables e below (own_P s (Q8 Z q1 h0 n0) ({ frames := 3, cells := 1, slots := 1, locals := 39 } : Room).cells ({ frames := 3, cells := 1, slots := 1, locals := 39 } : Room).slots) (s₁.setTop (entryFrame m #[(.long q1)] 3))
  refine own_f s₁ (mkF m 0 #[.val (.long q1), .second, .unset] []) (fun t k => castTop (ef_8 m q1) k) ?_
  refine own_f s₁ (mkF m 3 #[.val (.long q1), .second, .unset] [(.int (128 : Int32))]) (fun t k => XT.sipushV X0.here hx rfl (128 : Int32) (hb hby d8_0) (by decide) k) ?_
  refine own_f s₁ (mkF m 4 #[.val (.long q1), .second, .val (.int (128 : Int32))] []) (fun t k => XS.istoreN X0.here hx rfl (hb hby d8_3) rfl (l' := #[.val (.long q1), .second, .val (.int (128 : Int32))]) rfl k) ?_
  refine own_f s₁ (mkF m 5 #[.val (.long q1), .second, .val (.int (128 : Int32))] [(.long q1)]) (fun t k => XS.lloadN X0.here hx rfl (hb hby d8_4) rfl k) ?_
  refine own_f s₁ (mkF m 8 #[.val (.long q1), .second, .val (.int (128 : Int32))] [(.long (-128 : Int64)), (.long q1)]) (fun t k => X0.ldc2J hx hown (mvT hZ (own_w hw 11 rfl)) rfl (hb hby d8_5) k) ?_
  refine own_f s₁ (mkF m 9 #[.val (.long q1), .second, .val (.int (128 : Int32))] [(.int (XT.cmpL q1 (-128 : Int64)))]) (fun t k => XT.lcmp X0.here hx rfl (hb hby d8_8) rfl k) ?_
  by_cases hc1 : q1 < (-128 : Int64)
  · skip
    refine own_f s₁ (mkF m 31 #[.val (.long q1), .second, .val (.int (128 : Int32))] []) (fun t k => XS.ifYes X0.here hx rfl (pc0 := 9) (pc' := 31) rfl (hb hby d8_9) rfl (XT.ll_lt_t hc1) (by decide) (by decide) k) ?_
    obtain ⟨T2, h2, X2, e2, E2, A2, D2, U2, st2⟩ := newO X0 hx hZ hown (own_w hw 38 rfl) (own_w hw 39 rfl) (own_w hw 9 rfl) e0 (g := (mkF m 31 #[.val (.long q1), .second, .val (.int (128 : Int32))] [])) rfl (hb hby d8_31) (by decide) (by decide)
    obtain ⟨b2, g2⟩ : ∃ z, z = h0.size := ⟨_, rfl⟩
    rw [← g2] at A2 D2 st2
    have ge2 : n0 ≤ b2 := by rw [g2]; exact Z0
    have gf2 : h0.size ≤ b2 := by rw [g2]; exact (Keep.refl h0 []).1
    have Zs2 : n0 ≤ h2.size := Nat.le_trans Z0 E2.1
    have F_3 := F0.ext E2
    have K2 : Keep h0 h2 [] := (Keep.refl h0 []).ext E2
    have F_4 : Fld Z h2 b2 "java/lang/Long" "value" "J" (.long 0) := D2 (Or.inr (own_w hw 52 rfl)) (ty := .long) (by decide)
    refine own_f T2 (mkF m 34 #[.val (.long q1), .second, .val (.int (128 : Int32))] [(.ref b2)]) st2 ?_
    refine own_f T2 (mkF m 35 #[.val (.long q1), .second, .val (.int (128 : Int32))] [(.ref b2), (.ref b2)]) (fun t k => XS.dup X2.here hx rfl (hb hby d8_34) rfl rfl k) ?_
    refine own_f T2 (mkF m 36 #[.val (.long q1), .second, .val (.int (128 : Int32))] [(.long q1), (.ref b2), (.ref b2)]) (fun t k => XS.lloadN X2.here hx rfl (hb hby d8_35) rfl k) ?_
    obtain ⟨_, _, ⟨T5, Lq5, kq_5, nq_5⟩, -, X5, ⟨Lc5, hQ5, lq5, yq5, zq5⟩, st5⟩ := X2.specialBack hx (y := (⟨"java/lang/Long", "<init>", "(J)V"⟩ : MethodName)) rfl hown (mvT hZ (own_w hw 40 rfl)) (mvT hZ (own_w hw 41 rfl)) (mvT hZ (own_w hw 43 rfl)) (by decide) (backOf (W := 1) (rm6 l Z a0 hw [] b2 q1 _ h2 n0 Zs2 A2 F_4 ge2) hZ (own_w hw 43 rfl) (own_w hw 9 rfl) (by decide) (by decide)) (g := (mkF m 36 #[.val (.long q1), .second, .val (.int (128 : Int32))] [(.long q1), (.ref b2), (.ref b2)])) rfl (by rw [hml]; rfl) (Steps.refl _) (a := b2) (argsL := [(.long q1)]) (rest := [(.ref b2)]) (lenOf pd__J_V rfl) rfl (by show 2 * 0 + _ ≤ _; exact Nat.le_of_eq rfl) (hb hby d8_36) (fun _ _ => ⟨rfl, e2, (by decide : 0 + 1 + 0 ≤ _), (by decide : 0 + 1 + 0 ≤ _)⟩)
    dsimp only [Pt.U, Pt.locs, Pt.cells, Pt.slots] at X5 lq5 yq5 zq5 st5 hQ5
    subst lq5 yq5 zq5
    obtain ⟨h5, e5⟩ : ∃ z, T5.heap = z := ⟨_, rfl⟩
    rw [e5] at hQ5
    unfold Q6 at hQ5
    obtain ⟨rfl, Nq5, qh5, G5_0, G5_1⟩ := hQ5
    have N5 := Fr.app N0 Nq5
    have Zs5 : n0 ≤ h5.size := Nat.le_trans Zs2 qh5.1
    have F_6 := F_3.keep qh5 (allS ge2 all0)
    have K5 : Keep h0 h5 [] := K2.trans qh5 (allS (Or.inr gf2) all0)
    refine own_g T5 (mkF m 39 #[.val (.long q1), .second, .val (.int (128 : Int32))] [(.ref b2)]) st5 ?_
    obtain ⟨fs, hr, hrun, hended, hW, hsame⟩ := X5.leave (v := some (.ref b2)) (fun h => by rw [Bd.returns] at h; cases h)
    refine ⟨_, _, retOut X5 hx Bd.returns (by rfl) (Or.inr (Or.inr (Or.inr (Or.inr ⟨rfl, rfl, rfl⟩)))) (hb hby d8_39) hr, hrun, hended, _, _, rfl, ?_, ⟨_, rfl⟩, hW, hsame.mono (by decide) (by decide)⟩
    show Q8 Z q1 h0 n0 _ T5.heap _
    rw [e5]
    exact ⟨b2, rfl, N5, K5, G5_0, G5_1⟩
  · skip
    refine own_f s₁ (mkF m 12 #[.val (.long q1), .second, .val (.int (128 : Int32))] []) (fun t k => XS.ifNo X0.here hx rfl (hb hby d8_9) rfl (XT.ll_lt_f hc1) k) ?_
    refine own_f s₁ (mkF m 13 #[.val (.long q1), .second, .val (.int (128 : Int32))] [(.long q1)]) (fun t k => XS.lloadN X0.here hx rfl (hb hby d8_12) rfl k) ?_
    refine own_f s₁ (mkF m 16 #[.val (.long q1), .second, .val (.int (128 : Int32))] [(.long (127 : Int64)), (.long q1)]) (fun t k => X0.ldc2J hx hown (mvT hZ (own_w hw 12 rfl)) rfl (hb hby d8_13) k) ?_
    refine own_f s₁ (mkF m 17 #[.val (.long q1), .second, .val (.int (128 : Int32))] [(.int (XT.cmpL q1 (127 : Int64)))]) (fun t k => XT.lcmp X0.here hx rfl (hb hby d8_16) rfl k) ?_
    by_cases hc7 : (127 : Int64) < q1
    · skip
      refine own_f s₁ (mkF m 31 #[.val (.long q1), .second, .val (.int (128 : Int32))] []) (fun t k => XS.ifYes X0.here hx rfl (pc0 := 17) (pc' := 31) rfl (hb hby d8_17) rfl (XT.ll_gt_t hc7) (by decide) (by decide) k) ?_
      obtain ⟨T8, h8, X8, e8, E8, A8, D8, U8, st8⟩ := newO X0 hx hZ hown (own_w hw 38 rfl) (own_w hw 39 rfl) (own_w hw 9 rfl) e0 (g := (mkF m 31 #[.val (.long q1), .second, .val (.int (128 : Int32))] [])) rfl (hb hby d8_31) (by decide) (by decide)
      obtain ⟨b8, g8⟩ : ∃ z, z = h0.size := ⟨_, rfl⟩
      rw [← g8] at A8 D8 st8
      have ge8 : n0 ≤ b8 := by rw [g8]; exact Z0
      have gf8 : h0.size ≤ b8 := by rw [g8]; exact (Keep.refl h0 []).1
      have Zs8 : n0 ≤ h8.size := Nat.le_trans Z0 E8.1
      have F_9 := F0.ext E8
      have K8 : Keep h0 h8 [] := (Keep.refl h0 []).ext E8
      have F_10 : Fld Z h8 b8 "java/lang/Long" "value" "J" (.long 0) := D8 (Or.inr (own_w hw 52 rfl)) (ty := .long) (by decide)
      refine own_f T8 (mkF m 34 #[.val (.long q1), .second, .val (.int (128 : Int32))] [(.ref b8)]) st8 ?_
      refine own_f T8 (mkF m 35 #[.val (.long q1), .second, .val (.int (128 : Int32))] [(.ref b8), (.ref b8)]) (fun t k => XS.dup X8.here hx rfl (hb hby d8_34) rfl rfl k) ?_
      refine own_f T8 (mkF m 36 #[.val (.long q1), .second, .val (.int (128 : Int32))] [(.long q1), (.ref b8), (.ref b8)]) (fun t k => XS.lloadN X8.here hx rfl (hb hby d8_35) rfl k) ?_
      obtain ⟨_, _, ⟨T11, Lq11, kq_11, nq_11⟩, -, X11, ⟨Lc11, hQ11, lq11, yq11, zq11⟩, st11⟩ := X8.specialBack hx (y := (⟨"java/lang/Long", "<init>", "(J)V"⟩ : MethodName)) rfl hown (mvT hZ (own_w hw 40 rfl)) (mvT hZ (own_w hw 41 rfl)) (mvT hZ (own_w hw 43 rfl)) (by decide) (backOf (W := 1) (rm6 l Z a0 hw [] b8 q1 _ h8 n0 Zs8 A8 F_10 ge8) hZ (own_w hw 43 rfl) (own_w hw 9 rfl) (by decide) (by decide)) (g := (mkF m 36 #[.val (.long q1), .second, .val (.int (128 : Int32))] [(.long q1), (.ref b8), (.ref b8)])) rfl (by rw [hml]; rfl) (Steps.refl _) (a := b8) (argsL := [(.long q1)]) (rest := [(.ref b8)]) (lenOf pd__J_V rfl) rfl (by show 2 * 0 + _ ≤ _; exact Nat.le_of_eq rfl) (hb hby d8_36) (fun _ _ => ⟨rfl, e8, (by decide : 0 + 1 + 0 ≤ _), (by decide : 0 + 1 + 0 ≤ _)⟩)
      dsimp only [Pt.U, Pt.locs, Pt.cells, Pt.slots] at X11 lq11 yq11 zq11 st11 hQ11
      subst lq11 yq11 zq11
      obtain ⟨h11, e11⟩ : ∃ z, T11.heap = z := ⟨_, rfl⟩
      rw [e11] at hQ11
      unfold Q6 at hQ11
      obtain ⟨rfl, Nq11, qh11, G11_0, G11_1⟩ := hQ11
      have N11 := Fr.app N0 Nq11
      have Zs11 : n0 ≤ h11.size := Nat.le_trans Zs8 qh11.1
      have F_12 := F_9.keep qh11 (allS ge8 all0)
      have K11 : Keep h0 h11 [] := K8.trans qh11 (allS (Or.inr gf8) all0)
      refine own_g T11 (mkF m 39 #[.val (.long q1), .second, .val (.int (128 : Int32))] [(.ref b8)]) st11 ?_
      obtain ⟨fs, hr, hrun, hended, hW, hsame⟩ := X11.leave (v := some (.ref b8)) (fun h => by rw [Bd.returns] at h; cases h)
      refine ⟨_, _, retOut X11 hx Bd.returns (by rfl) (Or.inr (Or.inr (Or.inr (Or.inr ⟨rfl, rfl, rfl⟩)))) (hb hby d8_39) hr, hrun, hended, _, _, rfl, ?_, ⟨_, rfl⟩, hW, hsame.mono (by decide) (by decide)⟩
      show Q8 Z q1 h0 n0 _ T11.heap _
      rw [e11]
      exact ⟨b8, rfl, N11, K11, G11_0, G11_1⟩
    · skip
      refine own_f s₁ (mkF m 20 #[.val (.long q1), .second, .val (.int (128 : Int32))] []) (fun t k => XS.ifNo X0.here hx rfl (hb hby d8_17) rfl (XT.ll_gt_f hc7) k) ?_
      obtain ⟨ca, cc, S0, A0, HL⟩ := HC.ext F0.2
      obtain ⟨bx, HL1, HL2, HL3, HL4⟩ := HL q1 hc1 hc7
      obtain ⟨T13, X13, e13, st13⟩ := getS X0 hx hZ (host := "") hown (own_w hw 13 rfl) Via.refl e0 S0 (g := (mkF m 20 #[.val (.long q1), .second, .val (.int (128 : Int32))] [])) rfl (hb hby d8_20)
      refine own_f T13 (mkF m 23 #[.val (.long q1), .second, .val (.int (128 : Int32))] [(.ref ca)]) st13 ?_
      refine own_f T13 (mkF m 24 #[.val (.long q1), .second, .val (.int (128 : Int32))] [(.long q1), (.ref ca)]) (fun t k => XS.lloadN X13.here hx rfl (hb hby d8_23) rfl k) ?_
      refine own_f T13 (mkF m 25 #[.val (.long q1), .second, .val (.int (128 : Int32))] [(.int (q1.toInt32)), (.ref ca)]) (fun t k => XS.l2i X13.here hx rfl (hb hby d8_24) rfl k) ?_
      refine own_f T13 (mkF m 28 #[.val (.long q1), .second, .val (.int (128 : Int32))] [(.int (128 : Int32)), (.int (q1.toInt32)), (.ref ca)]) (fun t k => XT.sipushV X13.here hx rfl (128 : Int32) (hb hby d8_25) (by decide) k) ?_
      refine own_f T13 (mkF m 29 #[.val (.long q1), .second, .val (.int (128 : Int32))] [(.int ((q1.toInt32) + (128 : Int32))), (.ref ca)]) (fun t k => XS.iadd X13.here hx rfl (hb hby d8_28) rfl k) ?_
      refine own_f T13 (mkF m 30 #[.val (.long q1), .second, .val (.int (128 : Int32))] [(.ref bx)]) (fun t k => X13.aaload hx (j := ((q1.toInt32) + (128 : Int32))) (v := (.ref bx)) (by rw [e13]; exact A0.1) (State.isArrayOf_alike hZ.alike A0.2.1) rfl A0.2.2 HL1 HL2 (g := (mkF m 29 #[.val (.long q1), .second, .val (.int (128 : Int32))] [(.int ((q1.toInt32) + (128 : Int32))), (.ref ca)])) rfl rfl (hb hby d8_29) t k) ?_
      obtain ⟨fs, hr, hrun, hended, hW, hsame⟩ := X13.leave (v := some (.ref bx)) (fun h => by rw [Bd.returns] at h; cases h)
      refine ⟨_, _, retOut X13 hx Bd.returns (by rfl) (Or.inr (Or.inr (Or.inr (Or.inr ⟨rfl, rfl, rfl⟩)))) (hb hby d8_30) hr, hrun, hended, _, _, rfl, ?_, ⟨_, rfl⟩, hW, hsame.mono (by decide) (by decide)⟩
      show Q8 Z q1 h0 n0 _ T13.heap _
      rw [e13]
      exact ⟨bx, rfl, N0, (Keep.refl h0 []), HL3, HL4⟩
theorem d900_0 : decode prog_42_method_1_code 0 = .ok (.aload_n 0, 1) := by decide +kernel
theorem d900_1 : decode prog_42_method_1_code 1 = .ok (.invokespecial 1, 3) := by decide +kernel
theorem d900_4 : decode prog_42_method_1_code 4 = .ok (.aload_n 1, 1) := by decide +kernel
theorem d900_5 : decode prog_42_method_1_code 5 = .ok (.ifnull 46, 3) := by decide +kernel
theorem d900_51 : decode prog_42_method_1_code 51 = .ok (.aload_n 0, 1) := by decide +kernel
theorem d900_52 : decode prog_42_method_1_code 52 = .ok (.aload_n 1, 1) := by decide +kernel
theorem d900_53 : decode prog_42_method_1_code 53 = .ok (.putfield 28, 3) := by decide +kernel
theorem d900_56 : decode prog_42_method_1_code 56 = .ok (.aload_n 0, 1) := by decide +kernel
theorem d900_57 : decode prog_42_method_1_code 57 = .ok (.aload_n 2, 1) := by decide +kernel
theorem d900_58 : decode prog_42_method_1_code 58 = .ok (.putfield 34, 3) := by decide +kernel
theorem d900_61 : decode prog_42_method_1_code 61 = .ok (.return_, 1) := by decide +kernel
theorem pn_900 : plainName "com/example/reading_buckets/readingbuckets/TimeRange" = true := by first | (simp [plainName, overriddenIn]; done) | decide +kernel
theorem ef_900 (m : MethodId) (x0 : Addr) : entryFrame m #[(.ref x0), .null, .null] 3 = mkF m 0 #[.val (.ref x0), .val .null, .val .null] [] := by first | (simp [entryFrame, mkF, argsToLocals, Value.category]; done) | rfl
def Q900 (Z : State) (a1 : Addr) (u0 : Value) (u1 : Value) (h0 : Heap) (n0 : Nat) (v : Option Value) (h : Heap) (L : List Loc) : Prop := v = none ∧ Fr n0 L ∧ Keep h0 h [a1] ∧ Exa Z h a1 "com/example/reading_buckets/readingbuckets/TimeRange" ∧ Fld Z h a1 "com/example/reading_buckets/readingbuckets/TimeRange" "to" "Ljava/lang/Long;" .null
set_option maxRecDepth 65536 in
set_option maxHeartbeats 40000000 in
theorem rm900 (l : Launch) (Z : State) (a0 : Array Value) (hw : ∀ d ∈ tables_1, d.before a0 Z = true) (ws : List Jvm.Cond) (a1 : Addr) (u0 : Value) (u1 : Value) (h0 : Heap) (n0 : Nat) (Z0 : n0 ≤ h0.size) (F0 : Exa Z h0 a1 "com/example/reading_buckets/readingbuckets/TimeRange") (F1 : Fld Z h0 a1 "com/example/reading_buckets/readingbuckets/TimeRange" "from" "Ljava/lang/Long;" u0) (F2 : Fld Z h0 a1 "com/example/reading_buckets/readingbuckets/TimeRange" "to" "Ljava/lang/Long;" u1) (ge_a1 : n0 ≤ a1) :
    MetFree l (⟨"com/example/reading_buckets/readingbuckets/TimeRange", "<init>", "(Ljava/lang/Long;Ljava/lang/Long;)V"⟩ : MethodName) (head1 (Jvm.Cond.code (⟨"com/example/reading_buckets/readingbuckets/TimeRange", "<init>", "(Ljava/lang/Long;Ljava/lang/Long;)V"⟩ : MethodName) prog_42_method_1_code 3 none :: ws) ({ frames := 2, cells := 0, slots := 0, locals := 24 } : Room)) (fun a U => a = #[(.ref a1), .null, .null] ∧ Z.Warmed39 U.vm ∧ U.heap = h0) (fun _ _ _ _ _ => True) (fun _ U o U' => ∃ v L, o = .returned v ∧ Q900 Z a1 u0 u1 h0 n0 v U'.heap L ∧ FrameEnd U o U' L ({ frames := 2, cells := 0, slots := 0, locals := 24 } : Room).cells ({ frames := 2, cells := 0, slots := 0, locals := 24 } : Room).slots) := by
  refine MetFree.of_bodySF (plainFor_of_name pn_900) hisR ?_
  intro p e s m args below meth c s₁ Bd hml0 hP hK
  obtain ⟨rfl, hZ, hh⟩ := hP
  have hx := Bd.exec
  have hby := Bd.bytes
  have hml : c.maxLocals = 3 := hml0
  have hown : s.vm.findClass "com/example/reading_buckets/readingbuckets/TimeRange" = some m.cls := findClass_of_methodNamed Bd.named
  have hnm := (name_of_methodNamed Bd.named Bd.method).1
  have X0 : Stand p l e ({ frames := 2, cells := 0, slots := 0, locals := 24 } : Room) s m #[(.ref a1), .null, .null] below meth c s₁ [] 0 0 := Stand.of_body Bd
  have e0 : s₁.heap = h0 := by rw [← hh, Bd.state]; rfl
  have N0 := Fr.nil n0
  show own_R p.tables e below (own_P s (Q900 Z a1 u0 u1 h0 n0) ({ frames := 2, cells := 0, slots := 0, locals := 24 } : Room).cells ({ frames := 2, cells := 0, slots := 0, locals := 24 } : Room).slots) (s₁.setTop (entryFrame m #[(.ref a1), .null, .null] 3))
  refine own_f s₁ (mkF m 0 #[.val (.ref a1), .val .null, .val .null] []) (fun t k => castTop (ef_900 m a1) k) ?_
  refine own_f s₁ (mkF m 1 #[.val (.ref a1), .val .null, .val .null] [(.ref a1)]) (fun t k => XS.aloadN X0.here hx rfl (hb hby d900_0) rfl rfl k) ?_
  obtain ⟨_, _, ⟨T1, Lq1, kq_1, nq_1⟩, -, X1, ⟨Lc1, hQ1, lq1, yq1, zq1⟩, st1⟩ := X0.specialBack hx (y := (⟨"java/lang/Record", "<init>", "()V"⟩ : MethodName)) rfl hown (mvT hZ (own_w hw 21 rfl)) (mvT hZ (own_w hw 22 rfl)) (mvT hZ (own_w hw 25 rfl)) (by decide) (backOf (W := 0) (rm2 l Z a0 hw [] a1 h0 n0 Z0 ) hZ (own_w hw 25 rfl) (own_w hw 24 rfl) (by decide) (by decide)) (g := (mkF m 1 #[.val (.ref a1), .val .null, .val .null] [(.ref a1)])) rfl (by rw [hml]; rfl) (Steps.refl _) (a := a1) (argsL := []) (rest := []) (lenOf pd__V rfl) rfl (by show 2 * 0 + _ ≤ _; exact Nat.le_of_eq rfl) (hb hby d900_1) (fun _ _ => ⟨rfl, e0, (by decide : 0 + 0 ≤ _), (by decide : 0 + 0 ≤ _)⟩)
  dsimp only [Pt.U, Pt.locs, Pt.cells, Pt.slots] at X1 lq1 yq1 zq1 st1 hQ1
  subst lq1 yq1 zq1
  obtain ⟨h1, e1⟩ : ∃ z, T1.heap = z := ⟨_, rfl⟩
  rw [e1] at hQ1
  unfold Q2 at hQ1
  obtain ⟨rfl, Nq1, qh1⟩ := hQ1
  have N1 := Fr.app N0 Nq1
  rw [qh1] at e1
  refine own_g T1 (mkF m 4 #[.val (.ref a1), .val .null, .val .null] []) st1 ?_
  refine own_f T1 (mkF m 5 #[.val (.ref a1), .val .null, .val .null] [.null]) (fun t k => XS.aloadN X1.here hx rfl (hb hby d900_4) rfl rfl k) ?_
  refine own_f T1 (mkF m 51 #[.val (.ref a1), .val .null, .val .null] []) (fun t k => XS.ifnullYes X1.here hx rfl (pc0 := 5) (pc' := 51) rfl (hb hby d900_5) rfl (by decide) (by decide) k) ?_
  refine own_f T1 (mkF m 52 #[.val (.ref a1), .val .null, .val .null] [(.ref a1)]) (fun t k => XS.aloadN X1.here hx rfl (hb hby d900_51) rfl rfl k) ?_
  refine own_f T1 (mkF m 53 #[.val (.ref a1), .val .null, .val .null] [.null, (.ref a1)]) (fun t k => XS.aloadN X1.here hx rfl (hb hby d900_52) rfl rfl k) ?_
  obtain ⟨T2, h2, X2, e2, W2, st2⟩ := putF X1 hx hZ hown (host := "") (Or.inl (own_w hw 29 rfl)) Via.refl e1 F1 F0 (Or.inr ⟨(own_w hw 30 rfl), rfl, hnm⟩) (own_w hw 16 rfl) (ty := (.object "java/lang/Long")) (by decide) rfl rfl (g := (mkF m 53 #[.val (.ref a1), .val .null, .val .null] [.null, (.ref a1)])) rfl rfl (hb hby d900_53)
  have N2 := Fr.snoc X2 N1 ge_a1
  have Zs2 : n0 ≤ h2.size := by rw [W2.size]; exact Z0
  have K2 : Keep h0 h2 [a1] := (Keep.refl h0 [a1]).wr W2 (Or.inl (by simp))
  have F_3 := F0.wr W2
  have F_4 := F1.same W2
  have F_5 := F2.other W2 (Or.inr (slot_ne (Or.inr (own_w hw 32 rfl)) (Or.inr (own_w hw 30 rfl)) (by decide) (t := (.object "java/lang/Long")) (t' := (.object "java/lang/Long")) (by decide) (by decide)))
  refine own_f T2 (mkF m 56 #[.val (.ref a1), .val .null, .val .null] []) st2 ?_
  refine own_f T2 (mkF m 57 #[.val (.ref a1), .val .null, .val .null] [(.ref a1)]) (fun t k => XS.aloadN X2.here hx rfl (hb hby d900_56) rfl rfl k) ?_
  refine own_f T2 (mkF m 58 #[.val (.ref a1), .val .null, .val .null] [.null, (.ref a1)]) (fun t k => XS.aloadN X2.here hx rfl (hb hby d900_57) rfl rfl k) ?_
  obtain ⟨T6, h6, X6, e6, W6, st6⟩ := putF X2 hx hZ hown (host := "") (Or.inl (own_w hw 31 rfl)) Via.refl e2 F_5 F_3 (Or.inr ⟨(own_w hw 32 rfl), rfl, hnm⟩) (own_w hw 16 rfl) (ty := (.object "java/lang/Long")) (by decide) rfl rfl (g := (mkF m 58 #[.val (.ref a1), .val .null, .val .null] [.null, (.ref a1)])) rfl rfl (hb hby d900_58)
  have N6 := Fr.snoc X6 N2 ge_a1
  have Zs6 : n0 ≤ h6.size := by rw [W6.size]; exact Zs2
  have K6 : Keep h0 h6 [a1] := K2.wr W6 (Or.inl (by simp))
  have F_7 := F_3.wr W6
  have F_8 := F_4.other W6 (Or.inr (slot_ne (Or.inr (own_w hw 30 rfl)) (Or.inr (own_w hw 32 rfl)) (by decide) (t := (.object "java/lang/Long")) (t' := (.object "java/lang/Long")) (by decide) (by decide)))
  have F_9 := F_5.same W6
  refine own_f T6 (mkF m 61 #[.val (.ref a1), .val .null, .val .null] []) st6 ?_
  obtain ⟨fs, hr, hrun, hended, hW, hsame⟩ := X6.leave (v := none) (fun _ => rfl)
  refine ⟨_, _, X6.returnOut hx Bd.returns (hb hby d900_61) hr, hrun, hended, _, _, rfl, ?_, ⟨_, rfl⟩, hW, hsame.mono (by decide) (by decide)⟩
  show Q900 Z a1 u0 u1 h0 n0 _ T6.heap _
  rw [e6]
  exact ⟨rfl, N6, K6, F_7, F_9⟩
theorem d901_0 : decode prog_42_method_1_code 0 = .ok (.aload_n 0, 1) := by decide +kernel
theorem d901_1 : decode prog_42_method_1_code 1 = .ok (.invokespecial 1, 3) := by decide +kernel
theorem d901_4 : decode prog_42_method_1_code 4 = .ok (.aload_n 1, 1) := by decide +kernel
theorem d901_5 : decode prog_42_method_1_code 5 = .ok (.ifnull 46, 3) := by decide +kernel
theorem d901_51 : decode prog_42_method_1_code 51 = .ok (.aload_n 0, 1) := by decide +kernel
theorem d901_52 : decode prog_42_method_1_code 52 = .ok (.aload_n 1, 1) := by decide +kernel
theorem d901_53 : decode prog_42_method_1_code 53 = .ok (.putfield 28, 3) := by decide +kernel
theorem d901_56 : decode prog_42_method_1_code 56 = .ok (.aload_n 0, 1) := by decide +kernel
theorem d901_57 : decode prog_42_method_1_code 57 = .ok (.aload_n 2, 1) := by decide +kernel
theorem d901_58 : decode prog_42_method_1_code 58 = .ok (.putfield 34, 3) := by decide +kernel
theorem d901_61 : decode prog_42_method_1_code 61 = .ok (.return_, 1) := by decide +kernel
theorem pn_901 : plainName "com/example/reading_buckets/readingbuckets/TimeRange" = true := by first | (simp [plainName, overriddenIn]; done) | decide +kernel
theorem ef_901 (m : MethodId) (x0 : Addr) (x2 : Addr) : entryFrame m #[(.ref x0), .null, (.ref x2)] 3 = mkF m 0 #[.val (.ref x0), .val .null, .val (.ref x2)] [] := by first | (simp [entryFrame, mkF, argsToLocals, Value.category]; done) | rfl
def Q901 (Z : State) (a1 : Addr) (a3 : Addr) (u0 : Value) (u1 : Value) (h0 : Heap) (n0 : Nat) (v : Option Value) (h : Heap) (L : List Loc) : Prop := v = none ∧ Fr n0 L ∧ Keep h0 h [a1] ∧ Exa Z h a1 "com/example/reading_buckets/readingbuckets/TimeRange" ∧ Fld Z h a1 "com/example/reading_buckets/readingbuckets/TimeRange" "to" "Ljava/lang/Long;" (.ref a3)
set_option maxRecDepth 65536 in
set_option maxHeartbeats 40000000 in
theorem rm901 (l : Launch) (Z : State) (a0 : Array Value) (hw : ∀ d ∈ tables_1, d.before a0 Z = true) (ws : List Jvm.Cond) (a1 : Addr) (a3 : Addr) (u0 : Value) (u1 : Value) (h0 : Heap) (n0 : Nat) (Z0 : n0 ≤ h0.size) (F0 : Exa Z h0 a1 "com/example/reading_buckets/readingbuckets/TimeRange") (F1 : Fld Z h0 a1 "com/example/reading_buckets/readingbuckets/TimeRange" "from" "Ljava/lang/Long;" u0) (F2 : Fld Z h0 a1 "com/example/reading_buckets/readingbuckets/TimeRange" "to" "Ljava/lang/Long;" u1) (ge_a1 : n0 ≤ a1) :
    MetFree l (⟨"com/example/reading_buckets/readingbuckets/TimeRange", "<init>", "(Ljava/lang/Long;Ljava/lang/Long;)V"⟩ : MethodName) (head1 (Jvm.Cond.code (⟨"com/example/reading_buckets/readingbuckets/TimeRange", "<init>", "(Ljava/lang/Long;Ljava/lang/Long;)V"⟩ : MethodName) prog_42_method_1_code 3 none :: ws) ({ frames := 2, cells := 0, slots := 0, locals := 24 } : Room)) (fun a U => a = #[(.ref a1), .null, (.ref a3)] ∧ Z.Warmed39 U.vm ∧ U.heap = h0) (fun _ _ _ _ _ => True) (fun _ U o U' => ∃ v L, o = .returned v ∧ Q901 Z a1 a3 u0 u1 h0 n0 v U'.heap L ∧ FrameEnd U o U' L ({ frames := 2, cells := 0, slots := 0, locals := 24 } : Room).cells ({ frames := 2, cells := 0, slots := 0, locals := 24 } : Room).slots) := by
  refine MetFree.of_bodySF (plainFor_of_name pn_901) hisR ?_
  intro p e s m args below meth c s₁ Bd hml0 hP hK
  obtain ⟨rfl, hZ, hh⟩ := hP
  have hx := Bd.exec
  have hby := Bd.bytes
  have hml : c.maxLocals = 3 := hml0
  have hown : s.vm.findClass "com/example/reading_buckets/readingbuckets/TimeRange" = some m.cls := findClass_of_methodNamed Bd.named
  have hnm := (name_of_methodNamed Bd.named Bd.method).1
  have X0 : Stand p l e ({ frames := 2, cells := 0, slots := 0, locals := 24 } : Room) s m #[(.ref a1), .null, (.ref a3)] below meth c s₁ [] 0 0 := Stand.of_body Bd
  have e0 : s₁.heap = h0 := by rw [← hh, Bd.state]; rfl
  have N0 := Fr.nil n0
  show own_R p.tables e below (own_P s (Q901 Z a1 a3 u0 u1 h0 n0) ({ frames := 2, cells := 0, slots := 0, locals := 24 } : Room).cells ({ frames := 2, cells := 0, slots := 0, locals := 24 } : Room).slots) (s₁.setTop (entryFrame m #[(.ref a1), .null, (.ref a3)] 3))
  refine own_f s₁ (mkF m 0 #[.val (.ref a1), .val .null, .val (.ref a3)] []) (fun t k => castTop (ef_901 m a1 a3) k) ?_
  refine own_f s₁ (mkF m 1 #[.val (.ref a1), .val .null, .val (.ref a3)] [(.ref a1)]) (fun t k => XS.aloadN X0.here hx rfl (hb hby d901_0) rfl rfl k) ?_
  obtain ⟨_, _, ⟨T1, Lq1, kq_1, nq_1⟩, -, X1, ⟨Lc1, hQ1, lq1, yq1, zq1⟩, st1⟩ := X0.specialBack hx (y := (⟨"java/lang/Record", "<init>", "()V"⟩ : MethodName)) rfl hown (mvT hZ (own_w hw 21 rfl)) (mvT hZ (own_w hw 22 rfl)) (mvT hZ (own_w hw 25 rfl)) (by decide) (backOf (W := 0) (rm2 l Z a0 hw [] a1 h0 n0 Z0 ) hZ (own_w hw 25 rfl) (own_w hw 24 rfl) (by decide) (by decide)) (g := (mkF m 1 #[.val (.ref a1), .val .null, .val (.ref a3)] [(.ref a1)])) rfl (by rw [hml]; rfl) (Steps.refl _) (a := a1) (argsL := []) (rest := []) (lenOf pd__V rfl) rfl (by show 2 * 0 + _ ≤ _; exact Nat.le_of_eq rfl) (hb hby d901_1) (fun _ _ => ⟨rfl, e0, (by decide : 0 + 0 ≤ _), (by decide : 0 + 0 ≤ _)⟩)
  dsimp only [Pt.U, Pt.locs, Pt.cells, Pt.slots] at X1 lq1 yq1 zq1 st1 hQ1
  subst lq1 yq1 zq1
  obtain ⟨h1, e1⟩ : ∃ z, T1.heap = z := ⟨_, rfl⟩
  rw [e1] at hQ1
  unfold Q2 at hQ1
  obtain ⟨rfl, Nq1, qh1⟩ := hQ1
  have N1 := Fr.app N0 Nq1
  rw [qh1] at e1
  refine own_g T1 (mkF m 4 #[.val (.ref a1), .val .null, .val (.ref a3)] []) st1 ?_
  refine own_f T1 (mkF m 5 #[.val (.ref a1), .val .null, .val (.ref a3)] [.null]) (fun t k => XS.aloadN X1.here hx rfl (hb hby d901_4) rfl rfl k) ?_
  refine own_f T1 (mkF m 51 #[.val (.ref a1), .val .null, .val (.ref a3)] []) (fun t k => XS.ifnullYes X1.here hx rfl (pc0 := 5) (pc' := 51) rfl (hb hby d901_5) rfl (by decide) (by decide) k) ?_
  refine own_f T1 (mkF m 52 #[.val (.ref a1), .val .null, .val (.ref a3)] [(.ref a1)]) (fun t k => XS.aloadN X1.here hx rfl (hb hby d901_51) rfl rfl k) ?_
  refine own_f T1 (mkF m 53 #[.val (.ref a1), .val .null, .val (.ref a3)] [.null, (.ref a1)]) (fun t k => XS.aloadN X1.here hx rfl (hb hby d901_52) rfl rfl k) ?_
  obtain ⟨T2, h2, X2, e2, W2, st2⟩ := putF X1 hx hZ hown (host := "") (Or.inl (own_w hw 29 rfl)) Via.refl e1 F1 F0 (Or.inr ⟨(own_w hw 30 rfl), rfl, hnm⟩) (own_w hw 16 rfl) (ty := (.object "java/lang/Long")) (by decide) rfl rfl (g := (mkF m 53 #[.val (.ref a1), .val .null, .val (.ref a3)] [.null, (.ref a1)])) rfl rfl (hb hby d901_53)
  have N2 := Fr.snoc X2 N1 ge_a1
  have Zs2 : n0 ≤ h2.size := by rw [W2.size]; exact Z0
  have K2 : Keep h0 h2 [a1] := (Keep.refl h0 [a1]).wr W2 (Or.inl (by simp))
  have F_3 := F0.wr W2
  have F_4 := F1.same W2
  have F_5 := F2.other W2 (Or.inr (slot_ne (Or.inr (own_w hw 32 rfl)) (Or.inr (own_w hw 30 rfl)) (by decide) (t := (.object "java/lang/Long")) (t' := (.object "java/lang/Long")) (by decide) (by decide)))
  refine own_f T2 (mkF m 56 #[.val (.ref a1), .val .null, .val (.ref a3)] []) st2 ?_
  refine own_f T2 (mkF m 57 #[.val (.ref a1), .val .null, .val (.ref a3)] [(.ref a1)]) (fun t k => XS.aloadN X2.here hx rfl (hb hby d901_56) rfl rfl k) ?_
  refine own_f T2 (mkF m 58 #[.val (.ref a1), .val .null, .val (.ref a3)] [(.ref a3), (.ref a1)]) (fun t k => XS.aloadN X2.here hx rfl (hb hby d901_57) rfl rfl k) ?_
  obtain ⟨T6, h6, X6, e6, W6, st6⟩ := putF X2 hx hZ hown (host := "") (Or.inl (own_w hw 31 rfl)) Via.refl e2 F_5 F_3 (Or.inr ⟨(own_w hw 32 rfl), rfl, hnm⟩) (own_w hw 16 rfl) (ty := (.object "java/lang/Long")) (by decide) rfl rfl (g := (mkF m 58 #[.val (.ref a1), .val .null, .val (.ref a3)] [(.ref a3), (.ref a1)])) rfl rfl (hb hby d901_58)
  have N6 := Fr.snoc X6 N2 ge_a1
  have Zs6 : n0 ≤ h6.size := by rw [W6.size]; exact Zs2
  have K6 : Keep h0 h6 [a1] := K2.wr W6 (Or.inl (by simp))
  have F_7 := F_3.wr W6
  have F_8 := F_4.other W6 (Or.inr (slot_ne (Or.inr (own_w hw 30 rfl)) (Or.inr (own_w hw 32 rfl)) (by decide) (t := (.object "java/lang/Long")) (t' := (.object "java/lang/Long")) (by decide) (by decide)))
  have F_9 := F_5.same W6
  refine own_f T6 (mkF m 61 #[.val (.ref a1), .val .null, .val (.ref a3)] []) st6 ?_
  obtain ⟨fs, hr, hrun, hended, hW, hsame⟩ := X6.leave (v := none) (fun _ => rfl)
  refine ⟨_, _, X6.returnOut hx Bd.returns (hb hby d901_61) hr, hrun, hended, _, _, rfl, ?_, ⟨_, rfl⟩, hW, hsame.mono (by decide) (by decide)⟩
  show Q901 Z a1 a3 u0 u1 h0 n0 _ T6.heap _
  rw [e6]
  exact ⟨rfl, N6, K6, F_7, F_9⟩
theorem d910_0 : decode prog_42_method_1_code 0 = .ok (.aload_n 0, 1) := by decide +kernel
theorem d910_1 : decode prog_42_method_1_code 1 = .ok (.invokespecial 1, 3) := by decide +kernel
theorem d910_4 : decode prog_42_method_1_code 4 = .ok (.aload_n 1, 1) := by decide +kernel
theorem d910_5 : decode prog_42_method_1_code 5 = .ok (.ifnull 46, 3) := by decide +kernel
theorem d910_8 : decode prog_42_method_1_code 8 = .ok (.aload_n 2, 1) := by decide +kernel
theorem d910_9 : decode prog_42_method_1_code 9 = .ok (.ifnull 42, 3) := by decide +kernel
theorem d910_51 : decode prog_42_method_1_code 51 = .ok (.aload_n 0, 1) := by decide +kernel
theorem d910_52 : decode prog_42_method_1_code 52 = .ok (.aload_n 1, 1) := by decide +kernel
theorem d910_53 : decode prog_42_method_1_code 53 = .ok (.putfield 28, 3) := by decide +kernel
theorem d910_56 : decode prog_42_method_1_code 56 = .ok (.aload_n 0, 1) := by decide +kernel
theorem d910_57 : decode prog_42_method_1_code 57 = .ok (.aload_n 2, 1) := by decide +kernel
theorem d910_58 : decode prog_42_method_1_code 58 = .ok (.putfield 34, 3) := by decide +kernel
theorem d910_61 : decode prog_42_method_1_code 61 = .ok (.return_, 1) := by decide +kernel
theorem pn_910 : plainName "com/example/reading_buckets/readingbuckets/TimeRange" = true := by first | (simp [plainName, overriddenIn]; done) | decide +kernel
theorem ef_910 (m : MethodId) (x0 : Addr) (x1 : Addr) : entryFrame m #[(.ref x0), (.ref x1), .null] 3 = mkF m 0 #[.val (.ref x0), .val (.ref x1), .val .null] [] := by first | (simp [entryFrame, mkF, argsToLocals, Value.category]; done) | rfl
def Q910 (Z : State) (a1 : Addr) (a2 : Addr) (u0 : Value) (u1 : Value) (h0 : Heap) (n0 : Nat) (v : Option Value) (h : Heap) (L : List Loc) : Prop := v = none ∧ Fr n0 L ∧ Keep h0 h [a1] ∧ Exa Z h a1 "com/example/reading_buckets/readingbuckets/TimeRange" ∧ Fld Z h a1 "com/example/reading_buckets/readingbuckets/TimeRange" "to" "Ljava/lang/Long;" .null
set_option maxRecDepth 65536 in
set_option maxHeartbeats 40000000 in
theorem rm910 (l : Launch) (Z : State) (a0 : Array Value) (hw : ∀ d ∈ tables_1, d.before a0 Z = true) (ws : List Jvm.Cond) (a1 : Addr) (a2 : Addr) (u0 : Value) (u1 : Value) (h0 : Heap) (n0 : Nat) (Z0 : n0 ≤ h0.size) (F0 : Exa Z h0 a1 "com/example/reading_buckets/readingbuckets/TimeRange") (F1 : Fld Z h0 a1 "com/example/reading_buckets/readingbuckets/TimeRange" "from" "Ljava/lang/Long;" u0) (F2 : Fld Z h0 a1 "com/example/reading_buckets/readingbuckets/TimeRange" "to" "Ljava/lang/Long;" u1) (ge_a1 : n0 ≤ a1) :
    MetFree l (⟨"com/example/reading_buckets/readingbuckets/TimeRange", "<init>", "(Ljava/lang/Long;Ljava/lang/Long;)V"⟩ : MethodName) (head1 (Jvm.Cond.code (⟨"com/example/reading_buckets/readingbuckets/TimeRange", "<init>", "(Ljava/lang/Long;Ljava/lang/Long;)V"⟩ : MethodName) prog_42_method_1_code 3 none :: ws) ({ frames := 2, cells := 0, slots := 0, locals := 24 } : Room)) (fun a U => a = #[(.ref a1), (.ref a2), .null] ∧ Z.Warmed39 U.vm ∧ U.heap = h0) (fun _ _ _ _ _ => True) (fun _ U o U' => ∃ v L, o = .returned v ∧ Q910 Z a1 a2 u0 u1 h0 n0 v U'.heap L ∧ FrameEnd U o U' L ({ frames := 2, cells := 0, slots := 0, locals := 24 } : Room).cells ({ frames := 2, cells := 0, slots := 0, locals := 24 } : Room).slots) := by
  refine MetFree.of_bodySF (plainFor_of_name pn_910) hisR ?_
  intro p e s m args below meth c s₁ Bd hml0 hP hK
  obtain ⟨rfl, hZ, hh⟩ := hP
  have hx := Bd.exec
  have hby := Bd.bytes
  have hml : c.maxLocals = 3 := hml0
  have hown : s.vm.findClass "com/example/reading_buckets/readingbuckets/TimeRange" = some m.cls := findClass_of_methodNamed Bd.named
  have hnm := (name_of_methodNamed Bd.named Bd.method).1
  have X0 : Stand p l e ({ frames := 2, cells := 0, slots := 0, locals := 24 } : Room) s m #[(.ref a1), (.ref a2), .null] below meth c s₁ [] 0 0 := Stand.of_body Bd
  have e0 : s₁.heap = h0 := by rw [← hh, Bd.state]; rfl
  have N0 := Fr.nil n0
  show own_R p.tables e below (own_P s (Q910 Z a1 a2 u0 u1 h0 n0) ({ frames := 2, cells := 0, slots := 0, locals := 24 } : Room).cells ({ frames := 2, cells := 0, slots := 0, locals := 24 } : Room).slots) (s₁.setTop (entryFrame m #[(.ref a1), (.ref a2), .null] 3))
  refine own_f s₁ (mkF m 0 #[.val (.ref a1), .val (.ref a2), .val .null] []) (fun t k => castTop (ef_910 m a1 a2) k) ?_
  refine own_f s₁ (mkF m 1 #[.val (.ref a1), .val (.ref a2), .val .null] [(.ref a1)]) (fun t k => XS.aloadN X0.here hx rfl (hb hby d910_0) rfl rfl k) ?_
  obtain ⟨_, _, ⟨T1, Lq1, kq_1, nq_1⟩, -, X1, ⟨Lc1, hQ1, lq1, yq1, zq1⟩, st1⟩ := X0.specialBack hx (y := (⟨"java/lang/Record", "<init>", "()V"⟩ : MethodName)) rfl hown (mvT hZ (own_w hw 21 rfl)) (mvT hZ (own_w hw 22 rfl)) (mvT hZ (own_w hw 25 rfl)) (by decide) (backOf (W := 0) (rm2 l Z a0 hw [] a1 h0 n0 Z0 ) hZ (own_w hw 25 rfl) (own_w hw 24 rfl) (by decide) (by decide)) (g := (mkF m 1 #[.val (.ref a1), .val (.ref a2), .val .null] [(.ref a1)])) rfl (by rw [hml]; rfl) (Steps.refl _) (a := a1) (argsL := []) (rest := []) (lenOf pd__V rfl) rfl (by show 2 * 0 + _ ≤ _; exact Nat.le_of_eq rfl) (hb hby d910_1) (fun _ _ => ⟨rfl, e0, (by decide : 0 + 0 ≤ _), (by decide : 0 + 0 ≤ _)⟩)
  dsimp only [Pt.U, Pt.locs, Pt.cells, Pt.slots] at X1 lq1 yq1 zq1 st1 hQ1
  subst lq1 yq1 zq1
  obtain ⟨h1, e1⟩ : ∃ z, T1.heap = z := ⟨_, rfl⟩
  rw [e1] at hQ1
  unfold Q2 at hQ1
  obtain ⟨rfl, Nq1, qh1⟩ := hQ1
  have N1 := Fr.app N0 Nq1
  rw [qh1] at e1
  refine own_g T1 (mkF m 4 #[.val (.ref a1), .val (.ref a2), .val .null] []) st1 ?_
  refine own_f T1 (mkF m 5 #[.val (.ref a1), .val (.ref a2), .val .null] [(.ref a2)]) (fun t k => XS.aloadN X1.here hx rfl (hb hby d910_4) rfl rfl k) ?_
  refine own_f T1 (mkF m 8 #[.val (.ref a1), .val (.ref a2), .val .null] []) (fun t k => XS.ifnullNo X1.here hx rfl (hb hby d910_5) rfl k) ?_
  refine own_f T1 (mkF m 9 #[.val (.ref a1), .val (.ref a2), .val .null] [.null]) (fun t k => XS.aloadN X1.here hx rfl (hb hby d910_8) rfl rfl k) ?_
  refine own_f T1 (mkF m 51 #[.val (.ref a1), .val (.ref a2), .val .null] []) (fun t k => XS.ifnullYes X1.here hx rfl (pc0 := 9) (pc' := 51) rfl (hb hby d910_9) rfl (by decide) (by decide) k) ?_
  refine own_f T1 (mkF m 52 #[.val (.ref a1), .val (.ref a2), .val .null] [(.ref a1)]) (fun t k => XS.aloadN X1.here hx rfl (hb hby d910_51) rfl rfl k) ?_
  refine own_f T1 (mkF m 53 #[.val (.ref a1), .val (.ref a2), .val .null] [(.ref a2), (.ref a1)]) (fun t k => XS.aloadN X1.here hx rfl (hb hby d910_52) rfl rfl k) ?_
  obtain ⟨T2, h2, X2, e2, W2, st2⟩ := putF X1 hx hZ hown (host := "") (Or.inl (own_w hw 29 rfl)) Via.refl e1 F1 F0 (Or.inr ⟨(own_w hw 30 rfl), rfl, hnm⟩) (own_w hw 16 rfl) (ty := (.object "java/lang/Long")) (by decide) rfl rfl (g := (mkF m 53 #[.val (.ref a1), .val (.ref a2), .val .null] [(.ref a2), (.ref a1)])) rfl rfl (hb hby d910_53)
  have N2 := Fr.snoc X2 N1 ge_a1
  have Zs2 : n0 ≤ h2.size := by rw [W2.size]; exact Z0
  have K2 : Keep h0 h2 [a1] := (Keep.refl h0 [a1]).wr W2 (Or.inl (by simp))
  have F_3 := F0.wr W2
  have F_4 := F1.same W2
  have F_5 := F2.other W2 (Or.inr (slot_ne (Or.inr (own_w hw 32 rfl)) (Or.inr (own_w hw 30 rfl)) (by decide) (t := (.object "java/lang/Long")) (t' := (.object "java/lang/Long")) (by decide) (by decide)))
  refine own_f T2 (mkF m 56 #[.val (.ref a1), .val (.ref a2), .val .null] []) st2 ?_
  refine own_f T2 (mkF m 57 #[.val (.ref a1), .val (.ref a2), .val .null] [(.ref a1)]) (fun t k => XS.aloadN X2.here hx rfl (hb hby d910_56) rfl rfl k) ?_
  refine own_f T2 (mkF m 58 #[.val (.ref a1), .val (.ref a2), .val .null] [.null, (.ref a1)]) (fun t k => XS.aloadN X2.here hx rfl (hb hby d910_57) rfl rfl k) ?_
  obtain ⟨T6, h6, X6, e6, W6, st6⟩ := putF X2 hx hZ hown (host := "") (Or.inl (own_w hw 31 rfl)) Via.refl e2 F_5 F_3 (Or.inr ⟨(own_w hw 32 rfl), rfl, hnm⟩) (own_w hw 16 rfl) (ty := (.object "java/lang/Long")) (by decide) rfl rfl (g := (mkF m 58 #[.val (.ref a1), .val (.ref a2), .val .null] [.null, (.ref a1)])) rfl rfl (hb hby d910_58)
  have N6 := Fr.snoc X6 N2 ge_a1
  have Zs6 : n0 ≤ h6.size := by rw [W6.size]; exact Zs2
  have K6 : Keep h0 h6 [a1] := K2.wr W6 (Or.inl (by simp))
  have F_7 := F_3.wr W6
  have F_8 := F_4.other W6 (Or.inr (slot_ne (Or.inr (own_w hw 30 rfl)) (Or.inr (own_w hw 32 rfl)) (by decide) (t := (.object "java/lang/Long")) (t' := (.object "java/lang/Long")) (by decide) (by decide)))
  have F_9 := F_5.same W6
  refine own_f T6 (mkF m 61 #[.val (.ref a1), .val (.ref a2), .val .null] []) st6 ?_
  obtain ⟨fs, hr, hrun, hended, hW, hsame⟩ := X6.leave (v := none) (fun _ => rfl)
  refine ⟨_, _, X6.returnOut hx Bd.returns (hb hby d910_61) hr, hrun, hended, _, _, rfl, ?_, ⟨_, rfl⟩, hW, hsame.mono (by decide) (by decide)⟩
  show Q910 Z a1 a2 u0 u1 h0 n0 _ T6.heap _
  rw [e6]
  exact ⟨rfl, N6, K6, F_7, F_9⟩
theorem d911_0 : decode prog_42_method_1_code 0 = .ok (.aload_n 0, 1) := by decide +kernel
theorem d911_1 : decode prog_42_method_1_code 1 = .ok (.invokespecial 1, 3) := by decide +kernel
theorem d911_4 : decode prog_42_method_1_code 4 = .ok (.aload_n 1, 1) := by decide +kernel
theorem d911_5 : decode prog_42_method_1_code 5 = .ok (.ifnull 46, 3) := by decide +kernel
theorem d911_8 : decode prog_42_method_1_code 8 = .ok (.aload_n 2, 1) := by decide +kernel
theorem d911_9 : decode prog_42_method_1_code 9 = .ok (.ifnull 42, 3) := by decide +kernel
theorem d911_12 : decode prog_42_method_1_code 12 = .ok (.aload_n 2, 1) := by decide +kernel
theorem d911_13 : decode prog_42_method_1_code 13 = .ok (.invokevirtual 7, 3) := by decide +kernel
theorem d911_16 : decode prog_42_method_1_code 16 = .ok (.aload_n 1, 1) := by decide +kernel
theorem d911_17 : decode prog_42_method_1_code 17 = .ok (.invokevirtual 7, 3) := by decide +kernel
theorem d911_20 : decode prog_42_method_1_code 20 = .ok (.lcmp, 1) := by decide +kernel
theorem d911_21 : decode prog_42_method_1_code 21 = .ok (.ifCond .ge 30, 3) := by decide +kernel
theorem d911_51 : decode prog_42_method_1_code 51 = .ok (.aload_n 0, 1) := by decide +kernel
theorem d911_52 : decode prog_42_method_1_code 52 = .ok (.aload_n 1, 1) := by decide +kernel
theorem d911_53 : decode prog_42_method_1_code 53 = .ok (.putfield 28, 3) := by decide +kernel
theorem d911_56 : decode prog_42_method_1_code 56 = .ok (.aload_n 0, 1) := by decide +kernel
theorem d911_57 : decode prog_42_method_1_code 57 = .ok (.aload_n 2, 1) := by decide +kernel
theorem d911_58 : decode prog_42_method_1_code 58 = .ok (.putfield 34, 3) := by decide +kernel
theorem d911_61 : decode prog_42_method_1_code 61 = .ok (.return_, 1) := by decide +kernel
theorem pn_911 : plainName "com/example/reading_buckets/readingbuckets/TimeRange" = true := by first | (simp [plainName, overriddenIn]; done) | decide +kernel
theorem ef_911 (m : MethodId) (x0 : Addr) (x1 : Addr) (x2 : Addr) : entryFrame m #[(.ref x0), (.ref x1), (.ref x2)] 3 = mkF m 0 #[.val (.ref x0), .val (.ref x1), .val (.ref x2)] [] := by first | (simp [entryFrame, mkF, argsToLocals, Value.category]; done) | rfl
def Q911 (Z : State) (a1 : Addr) (a2 : Addr) (a3 : Addr) (lo : Int64) (hi : Int64) (u0 : Value) (u1 : Value) (h0 : Heap) (n0 : Nat) (v : Option Value) (h : Heap) (L : List Loc) : Prop := v = none ∧ Fr n0 L ∧ Keep h0 h [a1] ∧ Exa Z h a1 "com/example/reading_buckets/readingbuckets/TimeRange" ∧ Fld Z h a1 "com/example/reading_buckets/readingbuckets/TimeRange" "to" "Ljava/lang/Long;" (.ref a3)
set_option maxRecDepth 65536 in
set_option maxHeartbeats 40000000 in
theorem rm911 (l : Launch) (Z : State) (a0 : Array Value) (hw : ∀ d ∈ tables_1, d.before a0 Z = true) (ws : List Jvm.Cond) (a1 : Addr) (a2 : Addr) (a3 : Addr) (lo : Int64) (hi : Int64) (u0 : Value) (u1 : Value) (h0 : Heap) (n0 : Nat) (Z0 : n0 ≤ h0.size) (F0 : Exa Z h0 a1 "com/example/reading_buckets/readingbuckets/TimeRange") (F1 : Fld Z h0 a1 "com/example/reading_buckets/readingbuckets/TimeRange" "from" "Ljava/lang/Long;" u0) (F2 : Fld Z h0 a1 "com/example/reading_buckets/readingbuckets/TimeRange" "to" "Ljava/lang/Long;" u1) (F3 : Exa Z h0 a2 "java/lang/Long") (F4 : Fld Z h0 a2 "java/lang/Long" "value" "J" (.long lo)) (F5 : Exa Z h0 a3 "java/lang/Long") (F6 : Fld Z h0 a3 "java/lang/Long" "value" "J" (.long hi)) (ge_a1 : n0 ≤ a1) (hle : ¬ (hi < lo)) :
    MetFree l (⟨"com/example/reading_buckets/readingbuckets/TimeRange", "<init>", "(Ljava/lang/Long;Ljava/lang/Long;)V"⟩ : MethodName) (head1 (Jvm.Cond.code (⟨"com/example/reading_buckets/readingbuckets/TimeRange", "<init>", "(Ljava/lang/Long;Ljava/lang/Long;)V"⟩ : MethodName) prog_42_method_1_code 3 none :: ws) ({ frames := 2, cells := 0, slots := 0, locals := 24 } : Room)) (fun a U => a = #[(.ref a1), (.ref a2), (.ref a3)] ∧ Z.Warmed39 U.vm ∧ U.heap = h0) (fun _ _ _ _ _ => True) (fun _ U o U' => ∃ v L, o = .returned v ∧ Q911 Z a1 a2 a3 lo hi u0 u1 h0 n0 v U'.heap L ∧ FrameEnd U o U' L ({ frames := 2, cells := 0, slots := 0, locals := 24 } : Room).cells ({ frames := 2, cells := 0, slots := 0, locals := 24 } : Room).slots) := by
  refine MetFree.of_bodySF (plainFor_of_name pn_911) hisR ?_
  intro p e s m args below meth c s₁ Bd hml0 hP hK
  obtain ⟨rfl, hZ, hh⟩ := hP
  have hx := Bd.exec
  have hby := Bd.bytes
  have hml : c.maxLocals = 3 := hml0
  have hown : s.vm.findClass "com/example/reading_buckets/readingbuckets/TimeRange" = some m.cls := findClass_of_methodNamed Bd.named
  have hnm := (name_of_methodNamed Bd.named Bd.method).1
  have X0 : Stand p l e ({ frames := 2, cells := 0, slots := 0, locals := 24 } : Room) s m #[(.ref a1), (.ref a2), (.ref a3)] below meth c s₁ [] 0 0 := Stand.of_body Bd
  have e0 : s₁.heap = h0 := by rw [← hh, Bd.state]; rfl
  have N0 := Fr.nil n0
  show own_R p.tables e below (own_P s (Q911 Z a1 a2 a3 lo hi u0 u1 h0 n0) ({ frames := 2, cells := 0, slots := 0, locals := 24 } : Room).cells ({ frames := 2, cells := 0, slots := 0, locals := 24 } : Room).slots) (s₁.setTop (entryFrame m #[(.ref a1), (.ref a2), (.ref a3)] 3))
  refine own_f s₁ (mkF m 0 #[.val (.ref a1), .val (.ref a2), .val (.ref a3)] []) (fun t k => castTop (ef_911 m a1 a2 a3) k) ?_
  refine own_f s₁ (mkF m 1 #[.val (.ref a1), .val (.ref a2), .val (.ref a3)] [(.ref a1)]) (fun t k => XS.aloadN X0.here hx rfl (hb hby d911_0) rfl rfl k) ?_
  obtain ⟨_, _, ⟨T1, Lq1, kq_1, nq_1⟩, -, X1, ⟨Lc1, hQ1, lq1, yq1, zq1⟩, st1⟩ := X0.specialBack hx (y := (⟨"java/lang/Record", "<init>", "()V"⟩ : MethodName)) rfl hown (mvT hZ (own_w hw 21 rfl)) (mvT hZ (own_w hw 22 rfl)) (mvT hZ (own_w hw 25 rfl)) (by decide) (backOf (W := 0) (rm2 l Z a0 hw [] a1 h0 n0 Z0 ) hZ (own_w hw 25 rfl) (own_w hw 24 rfl) (by decide) (by decide)) (g := (mkF m 1 #[.val (.ref a1), .val (.ref a2), .val (.ref a3)] [(.ref a1)])) rfl (by rw [hml]; rfl) (Steps.refl _) (a := a1) (argsL := []) (rest := []) (lenOf pd__V rfl) rfl (by show 2 * 0 + _ ≤ _; exact Nat.le_of_eq rfl) (hb hby d911_1) (fun _ _ => ⟨rfl, e0, (by decide : 0 + 0 ≤ _), (by decide : 0 + 0 ≤ _)⟩)
  dsimp only [Pt.U, Pt.locs, Pt.cells, Pt.slots] at X1 lq1 yq1 zq1 st1 hQ1
  subst lq1 yq1 zq1
  obtain ⟨h1, e1⟩ : ∃ z, T1.heap = z := ⟨_, rfl⟩
  rw [e1] at hQ1
  unfold Q2 at hQ1
  obtain ⟨rfl, Nq1, qh1⟩ := hQ1
  have N1 := Fr.app N0 Nq1
  rw [qh1] at e1
  refine own_g T1 (mkF m 4 #[.val (.ref a1), .val (.ref a2), .val (.ref a3)] []) st1 ?_
  refine own_f T1 (mkF m 5 #[.val (.ref a1), .val (.ref a2), .val (.ref a3)] [(.ref a2)]) (fun t k => XS.aloadN X1.here hx rfl (hb hby d911_4) rfl rfl k) ?_
  refine own_f T1 (mkF m 8 #[.val (.ref a1), .val (.ref a2), .val (.ref a3)] []) (fun t k => XS.ifnullNo X1.here hx rfl (hb hby d911_5) rfl k) ?_
  refine own_f T1 (mkF m 9 #[.val (.ref a1), .val (.ref a2), .val (.ref a3)] [(.ref a3)]) (fun t k => XS.aloadN X1.here hx rfl (hb hby d911_8) rfl rfl k) ?_
  refine own_f T1 (mkF m 12 #[.val (.ref a1), .val (.ref a2), .val (.ref a3)] []) (fun t k => XS.ifnullNo X1.here hx rfl (hb hby d911_9) rfl k) ?_
  refine own_f T1 (mkF m 13 #[.val (.ref a1), .val (.ref a2), .val (.ref a3)] [(.ref a3)]) (fun t k => XS.aloadN X1.here hx rfl (hb hby d911_12) rfl rfl k) ?_
  obtain ⟨cq2, kq2, qa2, qb2, qc2⟩ := isOf hZ e1 F5
  obtain ⟨_, _, ⟨T2, Lq2, kq_2, nq_2⟩, -, X2, ⟨Lc2, hQ2, lq2, yq2, zq2⟩, st2⟩ := X1.virtualBack hx (y := (⟨"java/lang/Long", "longValue", "()J"⟩ : MethodName)) (z := (⟨"java/lang/Long", "longValue", "()J"⟩ : MethodName)) hown (mvT hZ (own_w hw 53 rfl)) (mvT hZ (own_w hw 54 rfl)) (notFace_of_selects (args := #[]) (mvT hZ (own_w hw 56 rfl))) (mvT hZ (own_w hw 56 rfl)) (mvT hZ (own_w hw 55 rfl)) (by decide) (backOf (W := 0) (rm7 l Z a0 hw [] a3 _ h0 n0 Z0 F6) hZ (own_w hw 57 rfl) (own_w hw 9 rfl) (by decide) (by decide)) qa2 qc2 (g := (mkF m 13 #[.val (.ref a1), .val (.ref a2), .val (.ref a3)] [(.ref a3)])) rfl (by rw [hml]; rfl) (Steps.refl _) (argsL := []) (rest := []) (lenOf pd__J rfl) rfl (by show 2 * 0 + _ ≤ _; exact Nat.le_of_eq rfl) (hb hby d911_13) (fun _ _ => ⟨rfl, e1, (by decide : 0 + 0 + 0 ≤ _), (by decide : 0 + 0 + 0 ≤ _)⟩)
  dsimp only [Pt.U, Pt.locs, Pt.cells, Pt.slots] at X2 lq2 yq2 zq2 st2 hQ2
  subst lq2 yq2 zq2
  obtain ⟨h2, e2⟩ : ∃ z, T2.heap = z := ⟨_, rfl⟩
  rw [e2] at hQ2
  unfold Q7 at hQ2
  obtain ⟨rfl, Nq2, qh2⟩ := hQ2
  have N2 := Fr.app N1 Nq2
  rw [qh2] at e2
  refine own_g T2 (mkF m 16 #[.val (.ref a1), .val (.ref a2), .val (.ref a3)] [(.long hi)]) st2 ?_
  refine own_f T2 (mkF m 17 #[.val (.ref a1), .val (.ref a2), .val (.ref a3)] [(.ref a2), (.long hi)]) (fun t k => XS.aloadN X2.here hx rfl (hb hby d911_16) rfl rfl k) ?_
  obtain ⟨cq3, kq3, qa3, qb3, qc3⟩ := isOf hZ e2 F3
  obtain ⟨_, _, ⟨T3, Lq3, kq_3, nq_3⟩, -, X3, ⟨Lc3, hQ3, lq3, yq3, zq3⟩, st3⟩ := X2.virtualBack hx (y := (⟨"java/lang/Long", "longValue", "()J"⟩ : MethodName)) (z := (⟨"java/lang/Long", "longValue", "()J"⟩ : MethodName)) hown (mvT hZ (own_w hw 53 rfl)) (mvT hZ (own_w hw 54 rfl)) (notFace_of_selects (args := #[]) (mvT hZ (own_w hw 56 rfl))) (mvT hZ (own_w hw 56 rfl)) (mvT hZ (own_w hw 55 rfl)) (by decide) (backOf (W := 2) (rm7 l Z a0 hw [] a2 _ h0 n0 Z0 F4) hZ (own_w hw 57 rfl) (own_w hw 9 rfl) (by decide) (by decide)) qa3 qc3 (g := (mkF m 17 #[.val (.ref a1), .val (.ref a2), .val (.ref a3)] [(.ref a2), (.long hi)])) rfl (by rw [hml]; rfl) (Steps.refl _) (argsL := []) (rest := [(.long hi)]) (lenOf pd__J rfl) rfl (by show 2 * 0 + _ ≤ _; exact Nat.le_of_eq rfl) (hb hby d911_17) (fun _ _ => ⟨rfl, e2, (by decide : 0 + 0 + 0 + 0 ≤ _), (by decide : 0 + 0 + 0 + 0 ≤ _)⟩)
  dsimp only [Pt.U, Pt.locs, Pt.cells, Pt.slots] at X3 lq3 yq3 zq3 st3 hQ3
  subst lq3 yq3 zq3
  obtain ⟨h3, e3⟩ : ∃ z, T3.heap = z := ⟨_, rfl⟩
  rw [e3] at hQ3
  unfold Q7 at hQ3
  obtain ⟨rfl, Nq3, qh3⟩ := hQ3
  have N3 := Fr.app N2 Nq3
  rw [qh3] at e3
  refine own_g T3 (mkF m 20 #[.val (.ref a1), .val (.ref a2), .val (.ref a3)] [(.long lo), (.long hi)]) st3 ?_
  refine own_f T3 (mkF m 21 #[.val (.ref a1), .val (.ref a2), .val (.ref a3)] [(.int (XT.cmpL hi lo))]) (fun t k => XT.lcmp X3.here hx rfl (hb hby d911_20) rfl k) ?_
  have hc4 : ¬ (hi < lo) := hle
  refine own_f T3 (mkF m 51 #[.val (.ref a1), .val (.ref a2), .val (.ref a3)] []) (fun t k => XS.ifYes X3.here hx rfl (pc0 := 21) (pc' := 51) rfl (hb hby d911_21) rfl (XT.ll_ge_t hc4) (by decide) (by decide) k) ?_
  refine own_f T3 (mkF m 52 #[.val (.ref a1), .val (.ref a2), .val (.ref a3)] [(.ref a1)]) (fun t k => XS.aloadN X3.here hx rfl (hb hby d911_51) rfl rfl k) ?_
  refine own_f T3 (mkF m 53 #[.val (.ref a1), .val (.ref a2), .val (.ref a3)] [(.ref a2), (.ref a1)]) (fun t k => XS.aloadN X3.here hx rfl (hb hby d911_52) rfl rfl k) ?_
  obtain ⟨T5, h5, X5, e5, W5, st5⟩ := putF X3 hx hZ hown (host := "") (Or.inl (own_w hw 29 rfl)) Via.refl e3 F1 F0 (Or.inr ⟨(own_w hw 30 rfl), rfl, hnm⟩) (own_w hw 16 rfl) (ty := (.object "java/lang/Long")) (by decide) rfl rfl (g := (mkF m 53 #[.val (.ref a1), .val (.ref a2), .val (.ref a3)] [(.ref a2), (.ref a1)])) rfl rfl (hb hby d911_53)
  have N5 := Fr.snoc X5 N3 ge_a1
  have Zs5 : n0 ≤ h5.size := by rw [W5.size]; exact Z0
  have K5 : Keep h0 h5 [a1] := (Keep.refl h0 [a1]).wr W5 (Or.inl (by simp))
  have F_6 := F0.wr W5
  have F_7 := F1.same W5
  have F_8 := F2.other W5 (Or.inr (slot_ne (Or.inr (own_w hw 32 rfl)) (Or.inr (own_w hw 30 rfl)) (by decide) (t := (.object "java/lang/Long")) (t' := (.object "java/lang/Long")) (by decide) (by decide)))
  have F_9 := F3.wr W5
  have F_10 := F4.other W5 (Or.inl (ne_exa F3 F0 (by decide)))
  have F_11 := F5.wr W5
  have F_12 := F6.other W5 (Or.inl (ne_exa F5 F0 (by decide)))
  refine own_f T5 (mkF m 56 #[.val (.ref a1), .val (.ref a2), .val (.ref a3)] []) st5 ?_
  refine own_f T5 (mkF m 57 #[.val (.ref a1), .val (.ref a2), .val (.ref a3)] [(.ref a1)]) (fun t k => XS.aloadN X5.here hx rfl (hb hby d911_56) rfl rfl k) ?_
  refine own_f T5 (mkF m 58 #[.val (.ref a1), .val (.ref a2), .val (.ref a3)] [(.ref a3), (.ref a1)]) (fun t k => XS.aloadN X5.here hx rfl (hb hby d911_57) rfl rfl k) ?_
  obtain ⟨T13, h13, X13, e13, W13, st13⟩ := putF X5 hx hZ hown (host := "") (Or.inl (own_w hw 31 rfl)) Via.refl e5 F_8 F_6 (Or.inr ⟨(own_w hw 32 rfl), rfl, hnm⟩) (own_w hw 16 rfl) (ty := (.object "java/lang/Long")) (by decide) rfl rfl (g := (mkF m 58 #[.val (.ref a1), .val (.ref a2), .val (.ref a3)] [(.ref a3), (.ref a1)])) rfl rfl (hb hby d911_58)
  have N13 := Fr.snoc X13 N5 ge_a1
  have Zs13 : n0 ≤ h13.size := by rw [W13.size]; exact Zs5
  have K13 : Keep h0 h13 [a1] := K5.wr W13 (Or.inl (by simp))
  have F_14 := F_6.wr W13
  have F_15 := F_7.other W13 (Or.inr (slot_ne (Or.inr (own_w hw 30 rfl)) (Or.inr (own_w hw 32 rfl)) (by decide) (t := (.object "java/lang/Long")) (t' := (.object "java/lang/Long")) (by decide) (by decide)))
  have F_16 := F_8.same W13
  have F_17 := F_9.wr W13
  have F_18 := F_10.other W13 (Or.inl (ne_exa F_9 F_6 (by decide)))
  have F_19 := F_11.wr W13
  have F_20 := F_12.other W13 (Or.inl (ne_exa F_11 F_6 (by decide)))
  refine own_f T13 (mkF m 61 #[.val (.ref a1), .val (.ref a2), .val (.ref a3)] []) st13 ?_
  obtain ⟨fs, hr, hrun, hended, hW, hsame⟩ := X13.leave (v := none) (fun _ => rfl)
  refine ⟨_, _, X13.returnOut hx Bd.returns (hb hby d911_61) hr, hrun, hended, _, _, rfl, ?_, ⟨_, rfl⟩, hW, hsame.mono (by decide) (by decide)⟩
  show Q911 Z a1 a2 a3 lo hi u0 u1 h0 n0 _ T13.heap _
  rw [e13]
  exact ⟨rfl, N13, K13, F_14, F_16⟩
theorem da0_0 : decode prog_42_method_3_code 0 = .ok (.aload_n 0, 1) := by decide +kernel
theorem da0_1 : decode prog_42_method_3_code 1 = .ok (.getfield 34, 3) := by decide +kernel
theorem da0_4 : decode prog_42_method_3_code 4 = .ok (.ifnull 19, 3) := by decide +kernel
theorem da0_23 : decode prog_42_method_3_code 23 = .ok (.iconst 0, 1) := by decide +kernel
theorem da0_24 : decode prog_42_method_3_code 24 = .ok (.ireturn, 1) := by decide +kernel
theorem pn_a0 : plainName "com/example/reading_buckets/readingbuckets/TimeRange" = true := by first | (simp [plainName, overriddenIn]; done) | decide +kernel
theorem ef_a0 (m : MethodId) (x0 : Addr) (x1 : Int64) : entryFrame m #[(.ref x0), (.long x1)] 3 = mkF m 0 #[.val (.ref x0), .val (.long x1), .second] [] := by first | (simp [entryFrame, mkF, argsToLocals, Value.category]; done) | rfl
def Qa0 (Z : State) (a1 : Addr) (q2 : Int64) (h0 : Heap) (n0 : Nat) (v : Option Value) (h : Heap) (L : List Loc) : Prop := v = some (.int (0 : Int32)) ∧ Fr n0 L ∧ h = h0
set_option maxRecDepth 65536 in
set_option maxHeartbeats 40000000 in
theorem rma0 (l : Launch) (Z : State) (a0 : Array Value) (hw : ∀ d ∈ tables_1, d.before a0 Z = true) (ws : List Jvm.Cond) (a1 : Addr) (q2 : Int64) (h0 : Heap) (n0 : Nat) (Z0 : n0 ≤ h0.size) (F0 : Fld Z h0 a1 "com/example/reading_buckets/readingbuckets/TimeRange" "to" "Ljava/lang/Long;" .null) :
    MetFree l (⟨"com/example/reading_buckets/readingbuckets/TimeRange", "endsAtOrBefore", "(J)Z"⟩ : MethodName) (head1 (Jvm.Cond.code (⟨"com/example/reading_buckets/readingbuckets/TimeRange", "endsAtOrBefore", "(J)Z"⟩ : MethodName) prog_42_method_3_code 3 (some .boolean) :: ws) ({ frames := 1, cells := 0, slots := 0, locals := 12 } : Room)) (fun a U => a = #[(.ref a1), (.long q2)] ∧ Z.Warmed39 U.vm ∧ U.heap = h0) (fun _ _ _ _ _ => True) (fun _ U o U' => ∃ v L, o = .returned v ∧ Qa0 Z a1 q2 h0 n0 v U'.heap L ∧ FrameEnd U o U' L ({ frames := 1, cells := 0, slots := 0, locals := 12 } : Room).cells ({ frames := 1, cells := 0, slots := 0, locals := 12 } : Room).slots) := by
  refine MetFree.of_bodySF (plainFor_of_name pn_a0) hisR ?_
  intro p e s m args below meth c s₁ Bd hml0 hP hK
  obtain ⟨rfl, hZ, hh⟩ := hP
  have hx := Bd.exec
  have hby := Bd.bytes
  have hml : c.maxLocals = 3 := hml0
  have hown : s.vm.findClass "com/example/reading_buckets/readingbuckets/TimeRange" = some m.cls := findClass_of_methodNamed Bd.named
  have hnm := (name_of_methodNamed Bd.named Bd.method).1
  have X0 : Stand p l e ({ frames := 1, cells := 0, slots := 0, locals := 12 } : Room) s m #[(.ref a1), (.long q2)] below meth c s₁ [] 0 0 := Stand.of_body Bd
  have e0 : s₁.heap = h0 := by rw [← hh, Bd.state]; rfl
  have N0 := Fr.nil n0
  show own_R p.tables e below (own_P s (Qa0 Z a1 q2 h0 n0) ({ frames := 1, cells := 0, slots := 0, locals := 12 } : Room).cells ({ frames := 1, cells := 0, slots := 0, locals := 12 } : Room).slots) (s₁.setTop (entryFrame m #[(.ref a1), (.long q2)] 3))
  refine own_f s₁ (mkF m 0 #[.val (.ref a1), .val (.long q2), .second] []) (fun t k => castTop (ef_a0 m a1 q2) k) ?_
  refine own_f s₁ (mkF m 1 #[.val (.ref a1), .val (.long q2), .second] [(.ref a1)]) (fun t k => XS.aloadN X0.here hx rfl (hb hby da0_0) rfl rfl k) ?_
  obtain ⟨T1, X1, e1, st1⟩ := getF X0 hx hZ hown (host := "") (Or.inl (own_w hw 31 rfl)) Via.refl e0 F0 (g := (mkF m 1 #[.val (.ref a1), .val (.long q2), .second] [(.ref a1)])) rfl rfl (hb hby da0_1)
  refine own_f T1 (mkF m 4 #[.val (.ref a1), .val (.long q2), .second] [.null]) st1 ?_
  refine own_f T1 (mkF m 23 #[.val (.ref a1), .val (.long q2), .second] []) (fun t k => XS.ifnullYes X1.here hx rfl (pc0 := 4) (pc' := 23) rfl (hb hby da0_4) rfl (by decide) (by decide) k) ?_
  refine own_f T1 (mkF m 24 #[.val (.ref a1), .val (.long q2), .second] [(.int (0 : Int32))]) (fun t k => XT.iconstV X1.here hx rfl (0 : Int32) (hb hby da0_23) (by decide) k) ?_
  obtain ⟨fs, hr, hrun, hended, hW, hsame⟩ := X1.leave (v := some (.int (0 : Int32))) (fun h => by rw [Bd.returns] at h; cases h)
  refine ⟨_, _, retN X1 hx (t := .boolean) Bd.returns (by simp) (hb hby da0_24) hr, hrun, hended, _, _, rfl, ?_, ⟨_, rfl⟩, hW, hsame.mono (by decide) (by decide)⟩
  show Qa0 Z a1 q2 h0 n0 _ T1.heap _
  rw [e1]
  exact ⟨rfl, N0, rfl⟩
theorem da1_0 : decode prog_42_method_3_code 0 = .ok (.aload_n 0, 1) := by decide +kernel
theorem da1_1 : decode prog_42_method_3_code 1 = .ok (.getfield 34, 3) := by decide +kernel
theorem da1_4 : decode prog_42_method_3_code 4 = .ok (.ifnull 19, 3) := by decide +kernel
theorem da1_7 : decode prog_42_method_3_code 7 = .ok (.aload_n 0, 1) := by decide +kernel
theorem da1_8 : decode prog_42_method_3_code 8 = .ok (.getfield 34, 3) := by decide +kernel
theorem da1_11 : decode prog_42_method_3_code 11 = .ok (.invokevirtual 7, 3) := by decide +kernel
theorem da1_14 : decode prog_42_method_3_code 14 = .ok (.lload_n 1, 1) := by decide +kernel
theorem da1_15 : decode prog_42_method_3_code 15 = .ok (.lcmp, 1) := by decide +kernel
theorem da1_16 : decode prog_42_method_3_code 16 = .ok (.ifCond .gt 7, 3) := by decide +kernel
theorem da1_19 : decode prog_42_method_3_code 19 = .ok (.iconst 1, 1) := by decide +kernel
theorem da1_20 : decode prog_42_method_3_code 20 = .ok (.goto 4, 3) := by decide +kernel
theorem da1_23 : decode prog_42_method_3_code 23 = .ok (.iconst 0, 1) := by decide +kernel
theorem da1_24 : decode prog_42_method_3_code 24 = .ok (.ireturn, 1) := by decide +kernel
theorem pn_a1 : plainName "com/example/reading_buckets/readingbuckets/TimeRange" = true := by first | (simp [plainName, overriddenIn]; done) | decide +kernel
theorem ef_a1 (m : MethodId) (x0 : Addr) (x1 : Int64) : entryFrame m #[(.ref x0), (.long x1)] 3 = mkF m 0 #[.val (.ref x0), .val (.long x1), .second] [] := by first | (simp [entryFrame, mkF, argsToLocals, Value.category]; done) | rfl
def Qa1 (Z : State) (a1 : Addr) (q2 : Int64) (a3 : Addr) (hi : Int64) (h0 : Heap) (n0 : Nat) (v : Option Value) (h : Heap) (L : List Loc) : Prop := v = some (.int (own_ge hi q2)) ∧ Fr n0 L ∧ h = h0
set_option maxRecDepth 65536 in
set_option maxHeartbeats 40000000 in
theorem rma1 (l : Launch) (Z : State) (a0 : Array Value) (hw : ∀ d ∈ tables_1, d.before a0 Z = true) (ws : List Jvm.Cond) (a1 : Addr) (q2 : Int64) (a3 : Addr) (hi : Int64) (h0 : Heap) (n0 : Nat) (Z0 : n0 ≤ h0.size) (F0 : Fld Z h0 a1 "com/example/reading_buckets/readingbuckets/TimeRange" "to" "Ljava/lang/Long;" (.ref a3)) (F1 : Exa Z h0 a3 "java/lang/Long") (F2 : Fld Z h0 a3 "java/lang/Long" "value" "J" (.long hi)) :
    MetFree l (⟨"com/example/reading_buckets/readingbuckets/TimeRange", "endsAtOrBefore", "(J)Z"⟩ : MethodName) (head1 (Jvm.Cond.code (⟨"com/example/reading_buckets/readingbuckets/TimeRange", "endsAtOrBefore", "(J)Z"⟩ : MethodName) prog_42_method_3_code 3 (some .boolean) :: ws) ({ frames := 1, cells := 0, slots := 0, locals := 12 } : Room)) (fun a U => a = #[(.ref a1), (.long q2)] ∧ Z.Warmed39 U.vm ∧ U.heap = h0) (fun _ _ _ _ _ => True) (fun _ U o U' => ∃ v L, o = .returned v ∧ Qa1 Z a1 q2 a3 hi h0 n0 v U'.heap L ∧ FrameEnd U o U' L ({ frames := 1, cells := 0, slots := 0, locals := 12 } : Room).cells ({ frames := 1, cells := 0, slots := 0, locals := 12 } : Room).slots) := by
  refine MetFree.of_bodySF (plainFor_of_name pn_a1) hisR ?_
  intro p e s m args below meth c s₁ Bd hml0 hP hK
  obtain ⟨rfl, hZ, hh⟩ := hP
  have hx := Bd.exec
  have hby := Bd.bytes
  have hml : c.maxLocals = 3 := hml0
  have hown : s.vm.findClass "com/example/reading_buckets/readingbuckets/TimeRange" = some m.cls := findClass_of_methodNamed Bd.named
  have hnm := (name_of_methodNamed Bd.named Bd.method).1
  have X0 : Stand p l e ({ frames := 1, cells := 0, slots := 0, locals := 12 } : Room) s m #[(.ref a1), (.long q2)] below meth c s₁ [] 0 0 := Stand.of_body Bd
  have e0 : s₁.heap = h0 := by rw [← hh, Bd.state]; rfl
  have N0 := Fr.nil n0
  show own_R p.tables e below (own_P s (Qa1 Z a1 q2 a3 hi h0 n0) ({ frames := 1, cells := 0, slots := 0, locals := 12 } : Room).cells ({ frames := 1, cells := 0, slots := 0, locals := 12 } : Room).slots) (s₁.setTop (entryFrame m #[(.ref a1), (.long q2)] 3))
  refine own_f s₁ (mkF m 0 #[.val (.ref a1), .val (.long q2), .second] []) (fun t k => castTop (ef_a1 m a1 q2) k) ?_
  refine own_f s₁ (mkF m 1 #[.val (.ref a1), .val (.long q2), .second] [(.ref a1)]) (fun t k => XS.aloadN X0.here hx rfl (hb hby da1_0) rfl rfl k) ?_
  obtain ⟨T1, X1, e1, st1⟩ := getF X0 hx hZ hown (host := "") (Or.inl (own_w hw 31 rfl)) Via.refl e0 F0 (g := (mkF m 1 #[.val (.ref a1), .val (.long q2), .second] [(.ref a1)])) rfl rfl (hb hby da1_1)
  refine own_f T1 (mkF m 4 #[.val (.ref a1), .val (.long q2), .second] [(.ref a3)]) st1 ?_
  refine own_f T1 (mkF m 7 #[.val (.ref a1), .val (.long q2), .second] []) (fun t k => XS.ifnullNo X1.here hx rfl (hb hby da1_4) rfl k) ?_
  refine own_f T1 (mkF m 8 #[.val (.ref a1), .val (.long q2), .second] [(.ref a1)]) (fun t k => XS.aloadN X1.here hx rfl (hb hby da1_7) rfl rfl k) ?_
  obtain ⟨T2, X2, e2, st2⟩ := getF X1 hx hZ hown (host := "") (Or.inl (own_w hw 31 rfl)) Via.refl e1 F0 (g := (mkF m 8 #[.val (.ref a1), .val (.long q2), .second] [(.ref a1)])) rfl rfl (hb hby da1_8)
  refine own_f T2 (mkF m 11 #[.val (.ref a1), .val (.long q2), .second] [(.ref a3)]) st2 ?_
  obtain ⟨cq3, kq3, qa3, qb3, qc3⟩ := isOf hZ e2 F1
  obtain ⟨_, _, ⟨T3, Lq3, kq_3, nq_3⟩, -, X3, ⟨Lc3, hQ3, lq3, yq3, zq3⟩, st3⟩ := X2.virtualBack hx (y := (⟨"java/lang/Long", "longValue", "()J"⟩ : MethodName)) (z := (⟨"java/lang/Long", "longValue", "()J"⟩ : MethodName)) hown (mvT hZ (own_w hw 53 rfl)) (mvT hZ (own_w hw 54 rfl)) (notFace_of_selects (args := #[]) (mvT hZ (own_w hw 56 rfl))) (mvT hZ (own_w hw 56 rfl)) (mvT hZ (own_w hw 55 rfl)) (by decide) (backOf (W := 0) (rm7 l Z a0 hw [] a3 _ h0 n0 Z0 F2) hZ (own_w hw 57 rfl) (own_w hw 9 rfl) (by decide) (by decide)) qa3 qc3 (g := (mkF m 11 #[.val (.ref a1), .val (.long q2), .second] [(.ref a3)])) rfl (by rw [hml]; rfl) (Steps.refl _) (argsL := []) (rest := []) (lenOf pd__J rfl) rfl (by show 2 * 0 + _ ≤ _; exact Nat.le_of_eq rfl) (hb hby da1_11) (fun _ _ => ⟨rfl, e2, (by decide : 0 + 0 ≤ _), (by decide : 0 + 0 ≤ _)⟩)
  dsimp only [Pt.U, Pt.locs, Pt.cells, Pt.slots] at X3 lq3 yq3 zq3 st3 hQ3
  subst lq3 yq3 zq3
  obtain ⟨h3, e3⟩ : ∃ z, T3.heap = z := ⟨_, rfl⟩
  rw [e3] at hQ3
  unfold Q7 at hQ3
  obtain ⟨rfl, Nq3, qh3⟩ := hQ3
  have N3 := Fr.app N0 Nq3
  rw [qh3] at e3
  refine own_g T3 (mkF m 14 #[.val (.ref a1), .val (.long q2), .second] [(.long hi)]) st3 ?_
  refine own_f T3 (mkF m 15 #[.val (.ref a1), .val (.long q2), .second] [(.long q2), (.long hi)]) (fun t k => XS.lloadN X3.here hx rfl (hb hby da1_14) rfl k) ?_
  refine own_f T3 (mkF m 16 #[.val (.ref a1), .val (.long q2), .second] [(.int (XT.cmpL hi q2))]) (fun t k => XT.lcmp X3.here hx rfl (hb hby da1_15) rfl k) ?_
  by_cases hc4 : q2 < hi
  · skip
    refine own_f T3 (mkF m 23 #[.val (.ref a1), .val (.long q2), .second] []) (fun t k => XS.ifYes X3.here hx rfl (pc0 := 16) (pc' := 23) rfl (hb hby da1_16) rfl (XT.ll_gt_t hc4) (by decide) (by decide) k) ?_
    refine own_f T3 (mkF m 24 #[.val (.ref a1), .val (.long q2), .second] [(.int (0 : Int32))]) (fun t k => XT.iconstV X3.here hx rfl (0 : Int32) (hb hby da1_23) (by decide) k) ?_
    obtain ⟨fs, hr, hrun, hended, hW, hsame⟩ := X3.leave (v := some (.int (0 : Int32))) (fun h => by rw [Bd.returns] at h; cases h)
    refine ⟨_, _, retN X3 hx (t := .boolean) Bd.returns (by simp) (hb hby da1_24) hr, hrun, hended, _, _, rfl, ?_, ⟨_, rfl⟩, hW, hsame.mono (by decide) (by decide)⟩
    show Qa1 Z a1 q2 a3 hi h0 n0 _ T3.heap _
    rw [e3]
    exact ⟨by rw [own_ge, if_pos hc4] <;> rfl, N3, rfl⟩
  · skip
    refine own_f T3 (mkF m 19 #[.val (.ref a1), .val (.long q2), .second] []) (fun t k => XS.ifNo X3.here hx rfl (hb hby da1_16) rfl (XT.ll_gt_f hc4) k) ?_
    refine own_f T3 (mkF m 20 #[.val (.ref a1), .val (.long q2), .second] [(.int (1 : Int32))]) (fun t k => XT.iconstV X3.here hx rfl (1 : Int32) (hb hby da1_19) (by decide) k) ?_
    refine own_f T3 (mkF m 24 #[.val (.ref a1), .val (.long q2), .second] [(.int (1 : Int32))]) (fun t k => XS.goto X3.here hx rfl (pc0 := 20) (pc' := 24) rfl (hb hby da1_20) (by decide) (by decide) k) ?_
    obtain ⟨fs, hr, hrun, hended, hW, hsame⟩ := X3.leave (v := some (.int (1 : Int32))) (fun h => by rw [Bd.returns] at h; cases h)
    refine ⟨_, _, retN X3 hx (t := .boolean) Bd.returns (by simp) (hb hby da1_24) hr, hrun, hended, _, _, rfl, ?_, ⟨_, rfl⟩, hW, hsame.mono (by decide) (by decide)⟩
    show Qa1 Z a1 q2 a3 hi h0 n0 _ T3.heap _
    rw [e3]
    exact ⟨by rw [own_ge, if_neg hc4] <;> rfl, N3, rfl⟩
theorem pn_0 : plainName "com/example/reading_buckets/readingbuckets/TimeRangeEndsAtOrBeforePinLaw" = true := by first | (simp [plainName, overriddenIn]; done) | decide +kernel
theorem ef_0 (m : MethodId) (x0 : Int64) (x1 : Int64) (x2 : Int64) (x3 : Int32) : entryFrame m #[(.long x0), (.long x1), (.long x2), (.int x3)] maxLocals = mkF m 0 #[.val (.long x0), .second, .val (.long x1), .second, .val (.long x2), .second, .val (.int x3), .unset, .unset, .unset, .unset, .unset, .unset, .unset, .unset, .unset, .unset, .unset, .unset, .unset, .unset] [] := by first | (simp [entryFrame, mkF, argsToLocals, Value.category, maxLocals]; done) | rfl
def Q0 (Z : State) (q1 : Int64) (q2 : Int64) (q3 : Int64) (p4 : Int32) (h0 : Heap) (n0 : Nat) (v : Option Value) (h : Heap) (L : List Loc) : Prop := v = some (.int 1) ∧ Fr n0 L
set_option maxRecDepth 65536 in
set_option maxHeartbeats 40000000 in
theorem rm0 (l : Launch) (Z : State) (a0 : Array Value) (hw : ∀ d ∈ tables_1, d.before a0 Z = true) (ws : List Jvm.Cond) (q1 : Int64) (q2 : Int64) (q3 : Int64) (p4 : Int32) (h0 : Heap) (n0 : Nat) (Z0 : n0 ≤ h0.size) (F0 : Old Z n0 h0) (HC : own_C Z Z.heap) :
    MetFree l x (head1 (Jvm.Cond.code x code maxLocals ret :: ws) room_1) (fun a U => a = #[(.long q1), (.long q2), (.long q3), (.int p4)] ∧ Z.Warmed39 U.vm ∧ U.heap = h0) (fun _ _ _ _ _ => True) (fun _ U o U' => ∃ v L, o = .returned v ∧ Q0 Z q1 q2 q3 p4 h0 n0 v U'.heap L ∧ FrameEnd U o U' L room_1.cells room_1.slots) := by
  refine MetFree.of_bodySF (plainFor_of_name pn_0) hisR ?_
  intro p e s m args below meth c s₁ Bd hml0 hP hK
  obtain ⟨rfl, hZ, hh⟩ := hP
  have hx := Bd.exec
  have hby := Bd.bytes
  have hml : c.maxLocals = 21 := hml0
  have hown : s.vm.findClass "com/example/reading_buckets/readingbuckets/TimeRangeEndsAtOrBeforePinLaw" = some m.cls := findClass_of_methodNamed Bd.named
  have hnm := (name_of_methodNamed Bd.named Bd.method).1
  have X0 : Stand p l e room_1 s m #[(.long q1), (.long q2), (.long q3), (.int p4)] below meth c s₁ [] 0 0 := Stand.of_body Bd
  have e0 : s₁.heap = h0 := by rw [← hh, Bd.state]; rfl
  have N0 := Fr.nil n0
  show own_R p.tables e below (own_P s (Q0 Z q1 q2 q3 p4 h0 n0) room_1.cells room_1.slots) (s₁.setTop (entryFrame m #[(.long q1), (.long q2), (.long q3), (.int p4)] maxLocals))
  refine own_f s₁ (mkF m 0 #[.val (.long q1), .second, .val (.long q2), .second, .val (.long q3), .second, .val (.int p4), .unset, .unset, .unset, .unset, .unset, .unset, .unset, .unset, .unset, .unset, .unset, .unset, .unset, .unset] []) (fun t k => castTop (ef_0 m q1 q2 q3 p4) k) ?_
  refine own_f s₁ (mkF m 2 #[.val (.long q1), .second, .val (.long q2), .second, .val (.long q3), .second, .val (.int p4), .unset, .unset, .unset, .unset, .unset, .unset, .unset, .unset, .unset, .unset, .unset, .unset, .unset, .unset] [(.int p4)]) (fun t k => XS.iload X0.here hx rfl (hb hby at_0) rfl k) ?_
  refine own_f s₁ (mkF m 3 #[.val (.long q1), .second, .val (.long q2), .second, .val (.long q3), .second, .val (.int p4), .unset, .unset, .unset, .unset, .unset, .unset, .unset, .unset, .unset, .unset, .unset, .unset, .unset, .unset] [(.int (1 : Int32)), (.int p4)]) (fun t k => XT.iconstV X0.here hx rfl (1 : Int32) (hb hby at_2) (by decide) k) ?_
  refine own_f s₁ (mkF m 4 #[.val (.long q1), .second, .val (.long q2), .second, .val (.long q3), .second, .val (.int p4), .unset, .unset, .unset, .unset, .unset, .unset, .unset, .unset, .unset, .unset, .unset, .unset, .unset, .unset] [(.int (p4 &&& (1 : Int32)))]) (fun t k => XS.iand X0.here hx rfl (hb hby at_3) rfl k) ?_
  have jn1 : ∀ (zs : Int32), own_R p.tables e below (own_P s (Q0 Z q1 q2 q3 p4 h0 n0) room_1.cells room_1.slots) (s₁.setTop (mkF m 12 #[.val (.long q1), .second, .val (.long q2), .second, .val (.long q3), .second, .val (.int p4), .unset, .unset, .unset, .unset, .unset, .unset, .unset, .unset, .unset, .unset, .unset, .unset, .unset, .unset] [(.int zs)])) := by
    intro zs
    refine own_f s₁ (mkF m 14 #[.val (.long q1), .second, .val (.long q2), .second, .val (.long q3), .second, .val (.int p4), .val (.int zs), .unset, .unset, .unset, .unset, .unset, .unset, .unset, .unset, .unset, .unset, .unset, .unset, .unset] []) (fun t k => XS.istore X0.here hx rfl (hb hby at_12) rfl (l' := #[.val (.long q1), .second, .val (.long q2), .second, .val (.long q3), .second, .val (.int p4), .val (.int zs), .unset, .unset, .unset, .unset, .unset, .unset, .unset, .unset, .unset, .unset, .unset, .unset, .unset]) rfl k) ?_
    refine own_f s₁ (mkF m 16 #[.val (.long q1), .second, .val (.long q2), .second, .val (.long q3), .second, .val (.int p4), .val (.int zs), .unset, .unset, .unset, .unset, .unset, .unset, .unset, .unset, .unset, .unset, .unset, .unset, .unset] [(.int p4)]) (fun t k => XS.iload X0.here hx rfl (hb hby at_14) rfl k) ?_
    refine own_f s₁ (mkF m 17 #[.val (.long q1), .second, .val (.long q2), .second, .val (.long q3), .second, .val (.int p4), .val (.int zs), .unset, .unset, .unset, .unset, .unset, .unset, .unset, .unset, .unset, .unset, .unset, .unset, .unset] [(.int (2 : Int32)), (.int p4)]) (fun t k => XT.iconstV X0.here hx rfl (2 : Int32) (hb hby at_16) (by decide) k) ?_
    refine own_f s₁ (mkF m 18 #[.val (.long q1), .second, .val (.long q2), .second, .val (.long q3), .second, .val (.int p4), .val (.int zs), .unset, .unset, .unset, .unset, .unset, .unset, .unset, .unset, .unset, .unset, .unset, .unset, .unset] [(.int (p4 &&& (2 : Int32)))]) (fun t k => XS.iand X0.here hx rfl (hb hby at_17) rfl k) ?_
    have jn2 : ∀ (ze : Int32), own_R p.tables e below (own_P s (Q0 Z q1 q2 q3 p4 h0 n0) room_1.cells room_1.slots) (s₁.setTop (mkF m 26 #[.val (.long q1), .second, .val (.long q2), .second, .val (.long q3), .second, .val (.int p4), .val (.int zs), .unset, .unset, .unset, .unset, .unset, .unset, .unset, .unset, .unset, .unset, .unset, .unset, .unset] [(.int ze)])) := by
      intro ze
      refine own_f s₁ (mkF m 28 #[.val (.long q1), .second, .val (.long q2), .second, .val (.long q3), .second, .val (.int p4), .val (.int zs), .val (.int ze), .unset, .unset, .unset, .unset, .unset, .unset, .unset, .unset, .unset, .unset, .unset, .unset] []) (fun t k => XS.istore X0.here hx rfl (hb hby at_26) rfl (l' := #[.val (.long q1), .second, .val (.long q2), .second, .val (.long q3), .second, .val (.int p4), .val (.int zs), .val (.int ze), .unset, .unset, .unset, .unset, .unset, .unset, .unset, .unset, .unset, .unset, .unset, .unset]) rfl k) ?_
      refine own_f s₁ (mkF m 30 #[.val (.long q1), .second, .val (.long q2), .second, .val (.long q3), .second, .val (.int p4), .val (.int zs), .val (.int ze), .unset, .unset, .unset, .unset, .unset, .unset, .unset, .unset, .unset, .unset, .unset, .unset] [(.int p4)]) (fun t k => XS.iload X0.here hx rfl (hb hby at_28) rfl k) ?_
      refine own_f s₁ (mkF m 31 #[.val (.long q1), .second, .val (.long q2), .second, .val (.long q3), .second, .val (.int p4), .val (.int zs), .val (.int ze), .unset, .unset, .unset, .unset, .unset, .unset, .unset, .unset, .unset, .unset, .unset, .unset] [(.int (2 : Int32)), (.int p4)]) (fun t k => XT.iconstV X0.here hx rfl (2 : Int32) (hb hby at_30) (by decide) k) ?_
      refine own_f s₁ (mkF m 32 #[.val (.long q1), .second, .val (.long q2), .second, .val (.long q3), .second, .val (.int p4), .val (.int zs), .val (.int ze), .unset, .unset, .unset, .unset, .unset, .unset, .unset, .unset, .unset, .unset, .unset, .unset] [(.int ((p4.toUInt32 >>> ((2 : Int32) &&& 31).toUInt32).toInt32))]) (fun t k => XS.iushr X0.here hx rfl (hb hby at_31) rfl k) ?_
      refine own_f s₁ (mkF m 33 #[.val (.long q1), .second, .val (.long q2), .second, .val (.long q3), .second, .val (.int p4), .val (.int zs), .val (.int ze), .unset, .unset, .unset, .unset, .unset, .unset, .unset, .unset, .unset, .unset, .unset, .unset] [(.int (3 : Int32)), (.int ((p4.toUInt32 >>> ((2 : Int32) &&& 31).toUInt32).toInt32))]) (fun t k => XT.iconstV X0.here hx rfl (3 : Int32) (hb hby at_32) (by decide) k) ?_
      refine own_f s₁ (mkF m 34 #[.val (.long q1), .second, .val (.long q2), .second, .val (.long q3), .second, .val (.int p4), .val (.int zs), .val (.int ze), .unset, .unset, .unset, .unset, .unset, .unset, .unset, .unset, .unset, .unset, .unset, .unset] [(.int (((p4.toUInt32 >>> ((2 : Int32) &&& 31).toUInt32).toInt32) &&& (3 : Int32)))]) (fun t k => XS.iand X0.here hx rfl (hb hby at_33) rfl k) ?_
      refine own_f s₁ (mkF m 36 #[.val (.long q1), .second, .val (.long q2), .second, .val (.long q3), .second, .val (.int p4), .val (.int zs), .val (.int ze), .val (.int (((p4.toUInt32 >>> ((2 : Int32) &&& 31).toUInt32).toInt32) &&& (3 : Int32))), .unset, .unset, .unset, .unset, .unset, .unset, .unset, .unset, .unset, .unset, .unset] []) (fun t k => XS.istore X0.here hx rfl (hb hby at_34) rfl (l' := #[.val (.long q1), .second, .val (.long q2), .second, .val (.long q3), .second, .val (.int p4), .val (.int zs), .val (.int ze), .val (.int (((p4.toUInt32 >>> ((2 : Int32) &&& 31).toUInt32).toInt32) &&& (3 : Int32))), .unset, .unset, .unset, .unset, .unset, .unset, .unset, .unset, .unset, .unset, .unset]) rfl k) ?_
      refine own_f s₁ (mkF m 37 #[.val (.long q1), .second, .val (.long q2), .second, .val (.long q3), .second, .val (.int p4), .val (.int zs), .val (.int ze), .val (.int (((p4.toUInt32 >>> ((2 : Int32) &&& 31).toUInt32).toInt32) &&& (3 : Int32))), .unset, .unset, .unset, .unset, .unset, .unset, .unset, .unset, .unset, .unset, .unset] [(.long q1)]) (fun t k => XS.lloadN X0.here hx rfl (hb hby at_36) rfl k) ?_
      refine own_f s₁ (mkF m 38 #[.val (.long q1), .second, .val (.long q2), .second, .val (.long q3), .second, .val (.int p4), .val (.int zs), .val (.int ze), .val (.int (((p4.toUInt32 >>> ((2 : Int32) &&& 31).toUInt32).toInt32) &&& (3 : Int32))), .unset, .unset, .unset, .unset, .unset, .unset, .unset, .unset, .unset, .unset, .unset] [(.long q2), (.long q1)]) (fun t k => XS.lloadN X0.here hx rfl (hb hby at_37) rfl k) ?_
      obtain ⟨_, _, ⟨T3, Lq3, kq_3, nq_3⟩, -, X3, ⟨Lc3, hQ3, lq3, yq3, zq3⟩, st3⟩ := Jvm.LawKit.callS X0 hx (y := (⟨"java/lang/Math", "min", "(JJ)J"⟩ : MethodName)) hown (mvT hZ (own_w hw 0 rfl)) (mvT hZ (own_w hw 1 rfl)) (mvT hZ (own_w hw 2 rfl)) (mvT hZ (own_w hw 3 rfl)) (by decide) (backOf (W := 0) (rm4 l Z a0 hw [] q1 q2 h0 n0 Z0 ) hZ (own_w hw 3 rfl) (own_w hw 2 rfl) (by decide) (by decide)) (g := (mkF m 38 #[.val (.long q1), .second, .val (.long q2), .second, .val (.long q3), .second, .val (.int p4), .val (.int zs), .val (.int ze), .val (.int (((p4.toUInt32 >>> ((2 : Int32) &&& 31).toUInt32).toInt32) &&& (3 : Int32))), .unset, .unset, .unset, .unset, .unset, .unset, .unset, .unset, .unset, .unset, .unset] [(.long q2), (.long q1)])) rfl (by rw [hml]; rfl) (argsL := [(.long q1), (.long q2)]) (rest := []) (lenOf pd__JJ_J rfl) rfl (by show 2 * 0 + _ ≤ _; exact Nat.le_of_eq rfl) (hb hby at_38) (fun _ _ => ⟨rfl, e0, (by decide : 0 + 0 ≤ _), (by decide : 0 + 0 ≤ _)⟩)
      dsimp only [Pt.U, Pt.locs, Pt.cells, Pt.slots] at X3 lq3 yq3 zq3 st3 hQ3
      subst lq3 yq3 zq3
      obtain ⟨h3, e3⟩ : ∃ z, T3.heap = z := ⟨_, rfl⟩
      rw [e3] at hQ3
      unfold Q4 at hQ3
      obtain ⟨rfl, Nq3, qh3⟩ := hQ3
      have N3 := Fr.app N0 Nq3
      rw [qh3] at e3
      refine own_f T3 (mkF m 41 #[.val (.long q1), .second, .val (.long q2), .second, .val (.long q3), .second, .val (.int p4), .val (.int zs), .val (.int ze), .val (.int (((p4.toUInt32 >>> ((2 : Int32) &&& 31).toUInt32).toInt32) &&& (3 : Int32))), .unset, .unset, .unset, .unset, .unset, .unset, .unset, .unset, .unset, .unset, .unset] [(.long (own_mn q1 q2))]) st3 ?_
      refine own_f T3 (mkF m 43 #[.val (.long q1), .second, .val (.long q2), .second, .val (.long q3), .second, .val (.int p4), .val (.int zs), .val (.int ze), .val (.int (((p4.toUInt32 >>> ((2 : Int32) &&& 31).toUInt32).toInt32) &&& (3 : Int32))), .val (.long (own_mn q1 q2)), .second, .unset, .unset, .unset, .unset, .unset, .unset, .unset, .unset, .unset] []) (fun t k => XS.lstore X3.here hx rfl (hb hby at_41) rfl (l' := #[.val (.long q1), .second, .val (.long q2), .second, .val (.long q3), .second, .val (.int p4), .val (.int zs), .val (.int ze), .val (.int (((p4.toUInt32 >>> ((2 : Int32) &&& 31).toUInt32).toInt32) &&& (3 : Int32))), .val (.long (own_mn q1 q2)), .second, .unset, .unset, .unset, .unset, .unset, .unset, .unset, .unset, .unset]) rfl k) ?_
      refine own_f T3 (mkF m 44 #[.val (.long q1), .second, .val (.long q2), .second, .val (.long q3), .second, .val (.int p4), .val (.int zs), .val (.int ze), .val (.int (((p4.toUInt32 >>> ((2 : Int32) &&& 31).toUInt32).toInt32) &&& (3 : Int32))), .val (.long (own_mn q1 q2)), .second, .unset, .unset, .unset, .unset, .unset, .unset, .unset, .unset, .unset] [(.long q1)]) (fun t k => XS.lloadN X3.here hx rfl (hb hby at_43) rfl k) ?_
      refine own_f T3 (mkF m 45 #[.val (.long q1), .second, .val (.long q2), .second, .val (.long q3), .second, .val (.int p4), .val (.int zs), .val (.int ze), .val (.int (((p4.toUInt32 >>> ((2 : Int32) &&& 31).toUInt32).toInt32) &&& (3 : Int32))), .val (.long (own_mn q1 q2)), .second, .unset, .unset, .unset, .unset, .unset, .unset, .unset, .unset, .unset] [(.long q2), (.long q1)]) (fun t k => XS.lloadN X3.here hx rfl (hb hby at_44) rfl k) ?_
      obtain ⟨_, _, ⟨T4, Lq4, kq_4, nq_4⟩, -, X4, ⟨Lc4, hQ4, lq4, yq4, zq4⟩, st4⟩ := Jvm.LawKit.callS X3 hx (y := (⟨"java/lang/Math", "max", "(JJ)J"⟩ : MethodName)) hown (mvT hZ (own_w hw 4 rfl)) (mvT hZ (own_w hw 5 rfl)) (mvT hZ (own_w hw 2 rfl)) (mvT hZ (own_w hw 6 rfl)) (by decide) (backOf (W := 0) (rm5 l Z a0 hw [] q1 q2 h0 n0 Z0 ) hZ (own_w hw 6 rfl) (own_w hw 2 rfl) (by decide) (by decide)) (g := (mkF m 45 #[.val (.long q1), .second, .val (.long q2), .second, .val (.long q3), .second, .val (.int p4), .val (.int zs), .val (.int ze), .val (.int (((p4.toUInt32 >>> ((2 : Int32) &&& 31).toUInt32).toInt32) &&& (3 : Int32))), .val (.long (own_mn q1 q2)), .second, .unset, .unset, .unset, .unset, .unset, .unset, .unset, .unset, .unset] [(.long q2), (.long q1)])) rfl (by rw [hml]; rfl) (argsL := [(.long q1), (.long q2)]) (rest := []) (lenOf pd__JJ_J rfl) rfl (by show 2 * 0 + _ ≤ _; exact Nat.le_of_eq rfl) (hb hby at_45) (fun _ _ => ⟨rfl, e3, (by decide : 0 + 0 + 0 ≤ _), (by decide : 0 + 0 + 0 ≤ _)⟩)
      dsimp only [Pt.U, Pt.locs, Pt.cells, Pt.slots] at X4 lq4 yq4 zq4 st4 hQ4
      subst lq4 yq4 zq4
      obtain ⟨h4, e4⟩ : ∃ z, T4.heap = z := ⟨_, rfl⟩
      rw [e4] at hQ4
      unfold Q5 at hQ4
      obtain ⟨rfl, Nq4, qh4⟩ := hQ4
      have N4 := Fr.app N3 Nq4
      rw [qh4] at e4
      refine own_f T4 (mkF m 48 #[.val (.long q1), .second, .val (.long q2), .second, .val (.long q3), .second, .val (.int p4), .val (.int zs), .val (.int ze), .val (.int (((p4.toUInt32 >>> ((2 : Int32) &&& 31).toUInt32).toInt32) &&& (3 : Int32))), .val (.long (own_mn q1 q2)), .second, .unset, .unset, .unset, .unset, .unset, .unset, .unset, .unset, .unset] [(.long (own_mx q1 q2))]) st4 ?_
      refine own_f T4 (mkF m 50 #[.val (.long q1), .second, .val (.long q2), .second, .val (.long q3), .second, .val (.int p4), .val (.int zs), .val (.int ze), .val (.int (((p4.toUInt32 >>> ((2 : Int32) &&& 31).toUInt32).toInt32) &&& (3 : Int32))), .val (.long (own_mn q1 q2)), .second, .val (.long (own_mx q1 q2)), .second, .unset, .unset, .unset, .unset, .unset, .unset, .unset] []) (fun t k => XS.lstore X4.here hx rfl (hb hby at_48) rfl (l' := #[.val (.long q1), .second, .val (.long q2), .second, .val (.long q3), .second, .val (.int p4), .val (.int zs), .val (.int ze), .val (.int (((p4.toUInt32 >>> ((2 : Int32) &&& 31).toUInt32).toInt32) &&& (3 : Int32))), .val (.long (own_mn q1 q2)), .second, .val (.long (own_mx q1 q2)), .second, .unset, .unset, .unset, .unset, .unset, .unset, .unset]) rfl k) ?_
      refine own_f T4 (mkF m 52 #[.val (.long q1), .second, .val (.long q2), .second, .val (.long q3), .second, .val (.int p4), .val (.int zs), .val (.int ze), .val (.int (((p4.toUInt32 >>> ((2 : Int32) &&& 31).toUInt32).toInt32) &&& (3 : Int32))), .val (.long (own_mn q1 q2)), .second, .val (.long (own_mx q1 q2)), .second, .unset, .unset, .unset, .unset, .unset, .unset, .unset] [(.int zs)]) (fun t k => XS.iload X4.here hx rfl (hb hby at_50) rfl k) ?_
      by_cases hc5 : zs = 0
      · skip
        refine own_f T4 (mkF m 59 #[.val (.long q1), .second, .val (.long q2), .second, .val (.long q3), .second, .val (.int p4), .val (.int zs), .val (.int ze), .val (.int (((p4.toUInt32 >>> ((2 : Int32) &&& 31).toUInt32).toInt32) &&& (3 : Int32))), .val (.long (own_mn q1 q2)), .second, .val (.long (own_mx q1 q2)), .second, .unset, .unset, .unset, .unset, .unset, .unset, .unset] []) (fun t k => XS.ifYes X4.here hx rfl (pc0 := 52) (pc' := 59) rfl (hb hby at_52) rfl (XT.i0_eq_t hc5) (by decide) (by decide) k) ?_
        refine own_f T4 (mkF m 61 #[.val (.long q1), .second, .val (.long q2), .second, .val (.long q3), .second, .val (.int p4), .val (.int zs), .val (.int ze), .val (.int (((p4.toUInt32 >>> ((2 : Int32) &&& 31).toUInt32).toInt32) &&& (3 : Int32))), .val (.long (own_mn q1 q2)), .second, .val (.long (own_mx q1 q2)), .second, .unset, .unset, .unset, .unset, .unset, .unset, .unset] [(.long (own_mn q1 q2))]) (fun t k => XS.lload X4.here hx rfl (hb hby at_59) rfl k) ?_
        obtain ⟨_, _, ⟨T6, Lq6, kq_6, nq_6⟩, -, X6, ⟨Lc6, hQ6, lq6, yq6, zq6⟩, st6⟩ := Jvm.LawKit.callS X4 hx (y := (⟨"java/lang/Long", "valueOf", "(J)Ljava/lang/Long;"⟩ : MethodName)) hown (mvT hZ (own_w hw 7 rfl)) (mvT hZ (own_w hw 8 rfl)) (mvT hZ (own_w hw 9 rfl)) (mvT hZ (own_w hw 10 rfl)) (by decide) (backOf (W := 0) (rm8 l Z a0 hw [] (own_mn q1 q2) h0 n0 Z0 F0 HC) hZ (own_w hw 10 rfl) (own_w hw 9 rfl) (by decide) (by decide)) (g := (mkF m 61 #[.val (.long q1), .second, .val (.long q2), .second, .val (.long q3), .second, .val (.int p4), .val (.int zs), .val (.int ze), .val (.int (((p4.toUInt32 >>> ((2 : Int32) &&& 31).toUInt32).toInt32) &&& (3 : Int32))), .val (.long (own_mn q1 q2)), .second, .val (.long (own_mx q1 q2)), .second, .unset, .unset, .unset, .unset, .unset, .unset, .unset] [(.long (own_mn q1 q2))])) rfl (by rw [hml]; rfl) (argsL := [(.long (own_mn q1 q2))]) (rest := []) (lenOf pd__J_Ljava_lang_Long_ rfl) rfl (by show 2 * 0 + _ ≤ _; exact Nat.le_of_eq rfl) (hb hby at_61) (fun _ _ => ⟨rfl, e4, (by decide : 0 + 0 + 0 + 1 ≤ _), (by decide : 0 + 0 + 0 + 1 ≤ _)⟩)
        dsimp only [Pt.U, Pt.locs, Pt.cells, Pt.slots] at X6 lq6 yq6 zq6 st6 hQ6
        subst lq6 yq6 zq6
        obtain ⟨h6, e6⟩ : ∃ z, T6.heap = z := ⟨_, rfl⟩
        rw [e6] at hQ6
        unfold Q8 at hQ6
        obtain ⟨b6, rfl, Nq6, qh6, G6_0, G6_1⟩ := hQ6
        have N6 := Fr.app N4 Nq6
        have Zs6 : n0 ≤ h6.size := Nat.le_trans Z0 qh6.1
        have F_7 := F0.keep qh6 all0
        refine own_f T6 (mkF m 64 #[.val (.long q1), .second, .val (.long q2), .second, .val (.long q3), .second, .val (.int p4), .val (.int zs), .val (.int ze), .val (.int (((p4.toUInt32 >>> ((2 : Int32) &&& 31).toUInt32).toInt32) &&& (3 : Int32))), .val (.long (own_mn q1 q2)), .second, .val (.long (own_mx q1 q2)), .second, .unset, .unset, .unset, .unset, .unset, .unset, .unset] [(.ref b6)]) st6 ?_
        refine own_f T6 (mkF m 66 #[.val (.long q1), .second, .val (.long q2), .second, .val (.long q3), .second, .val (.int p4), .val (.int zs), .val (.int ze), .val (.int (((p4.toUInt32 >>> ((2 : Int32) &&& 31).toUInt32).toInt32) &&& (3 : Int32))), .val (.long (own_mn q1 q2)), .second, .val (.long (own_mx q1 q2)), .second, .val (.ref b6), .unset, .unset, .unset, .unset, .unset, .unset] []) (fun t k => XS.astore X6.here hx rfl (hb hby at_64) rfl rfl (l' := #[.val (.long q1), .second, .val (.long q2), .second, .val (.long q3), .second, .val (.int p4), .val (.int zs), .val (.int ze), .val (.int (((p4.toUInt32 >>> ((2 : Int32) &&& 31).toUInt32).toInt32) &&& (3 : Int32))), .val (.long (own_mn q1 q2)), .second, .val (.long (own_mx q1 q2)), .second, .val (.ref b6), .unset, .unset, .unset, .unset, .unset, .unset]) rfl k) ?_
        refine own_f T6 (mkF m 68 #[.val (.long q1), .second, .val (.long q2), .second, .val (.long q3), .second, .val (.int p4), .val (.int zs), .val (.int ze), .val (.int (((p4.toUInt32 >>> ((2 : Int32) &&& 31).toUInt32).toInt32) &&& (3 : Int32))), .val (.long (own_mn q1 q2)), .second, .val (.long (own_mx q1 q2)), .second, .val (.ref b6), .unset, .unset, .unset, .unset, .unset, .unset] [(.int ze)]) (fun t k => XS.iload X6.here hx rfl (hb hby at_66) rfl k) ?_
        by_cases hc8 : ze = 0
        · skip
          refine own_f T6 (mkF m 75 #[.val (.long q1), .second, .val (.long q2), .second, .val (.long q3), .second, .val (.int p4), .val (.int zs), .val (.int ze), .val (.int (((p4.toUInt32 >>> ((2 : Int32) &&& 31).toUInt32).toInt32) &&& (3 : Int32))), .val (.long (own_mn q1 q2)), .second, .val (.long (own_mx q1 q2)), .second, .val (.ref b6), .unset, .unset, .unset, .unset, .unset, .unset] []) (fun t k => XS.ifYes X6.here hx rfl (pc0 := 68) (pc' := 75) rfl (hb hby at_68) rfl (XT.i0_eq_t hc8) (by decide) (by decide) k) ?_
          refine own_f T6 (mkF m 77 #[.val (.long q1), .second, .val (.long q2), .second, .val (.long q3), .second, .val (.int p4), .val (.int zs), .val (.int ze), .val (.int (((p4.toUInt32 >>> ((2 : Int32) &&& 31).toUInt32).toInt32) &&& (3 : Int32))), .val (.long (own_mn q1 q2)), .second, .val (.long (own_mx q1 q2)), .second, .val (.ref b6), .unset, .unset, .unset, .unset, .unset, .unset] [(.long (own_mx q1 q2))]) (fun t k => XS.lload X6.here hx rfl (hb hby at_75) rfl k) ?_
          obtain ⟨_, _, ⟨T9, Lq9, kq_9, nq_9⟩, -, X9, ⟨Lc9, hQ9, lq9, yq9, zq9⟩, st9⟩ := Jvm.LawKit.callS X6 hx (y := (⟨"java/lang/Long", "valueOf", "(J)Ljava/lang/Long;"⟩ : MethodName)) hown (mvT hZ (own_w hw 7 rfl)) (mvT hZ (own_w hw 8 rfl)) (mvT hZ (own_w hw 9 rfl)) (mvT hZ (own_w hw 10 rfl)) (by decide) (backOf (W := 0) (rm8 l Z a0 hw [] (own_mx q1 q2) h6 n0 Zs6 F_7 HC) hZ (own_w hw 10 rfl) (own_w hw 9 rfl) (by decide) (by decide)) (g := (mkF m 77 #[.val (.long q1), .second, .val (.long q2), .second, .val (.long q3), .second, .val (.int p4), .val (.int zs), .val (.int ze), .val (.int (((p4.toUInt32 >>> ((2 : Int32) &&& 31).toUInt32).toInt32) &&& (3 : Int32))), .val (.long (own_mn q1 q2)), .second, .val (.long (own_mx q1 q2)), .second, .val (.ref b6), .unset, .unset, .unset, .unset, .unset, .unset] [(.long (own_mx q1 q2))])) rfl (by rw [hml]; rfl) (argsL := [(.long (own_mx q1 q2))]) (rest := []) (lenOf pd__J_Ljava_lang_Long_ rfl) rfl (by show 2 * 0 + _ ≤ _; exact Nat.le_of_eq rfl) (hb hby at_77) (fun _ _ => ⟨rfl, e6, (by decide : 0 + 0 + 0 + 1 + 1 ≤ _), (by decide : 0 + 0 + 0 + 1 + 1 ≤ _)⟩)
          dsimp only [Pt.U, Pt.locs, Pt.cells, Pt.slots] at X9 lq9 yq9 zq9 st9 hQ9
          subst lq9 yq9 zq9
          obtain ⟨h9, e9⟩ : ∃ z, T9.heap = z := ⟨_, rfl⟩
          rw [e9] at hQ9
          unfold Q8 at hQ9
          obtain ⟨b9, rfl, Nq9, qh9, G9_0, G9_1⟩ := hQ9
          have N9 := Fr.app N6 Nq9
          have Zs9 : n0 ≤ h9.size := Nat.le_trans Zs6 qh9.1
          have F_10 := F_7.keep qh9 all0
          have F_11 := G6_0.keep qh9
          have F_12 := G6_1.keep qh9 nin0
          refine own_f T9 (mkF m 80 #[.val (.long q1), .second, .val (.long q2), .second, .val (.long q3), .second, .val (.int p4), .val (.int zs), .val (.int ze), .val (.int (((p4.toUInt32 >>> ((2 : Int32) &&& 31).toUInt32).toInt32) &&& (3 : Int32))), .val (.long (own_mn q1 q2)), .second, .val (.long (own_mx q1 q2)), .second, .val (.ref b6), .unset, .unset, .unset, .unset, .unset, .unset] [(.ref b9)]) st9 ?_
          refine own_f T9 (mkF m 82 #[.val (.long q1), .second, .val (.long q2), .second, .val (.long q3), .second, .val (.int p4), .val (.int zs), .val (.int ze), .val (.int (((p4.toUInt32 >>> ((2 : Int32) &&& 31).toUInt32).toInt32) &&& (3 : Int32))), .val (.long (own_mn q1 q2)), .second, .val (.long (own_mx q1 q2)), .second, .val (.ref b6), .val (.ref b9), .unset, .unset, .unset, .unset, .unset] []) (fun t k => XS.astore X9.here hx rfl (hb hby at_80) rfl rfl (l' := #[.val (.long q1), .second, .val (.long q2), .second, .val (.long q3), .second, .val (.int p4), .val (.int zs), .val (.int ze), .val (.int (((p4.toUInt32 >>> ((2 : Int32) &&& 31).toUInt32).toInt32) &&& (3 : Int32))), .val (.long (own_mn q1 q2)), .second, .val (.long (own_mx q1 q2)), .second, .val (.ref b6), .val (.ref b9), .unset, .unset, .unset, .unset, .unset]) rfl k) ?_
          refine own_f T9 (mkF m 84 #[.val (.long q1), .second, .val (.long q2), .second, .val (.long q3), .second, .val (.int p4), .val (.int zs), .val (.int ze), .val (.int (((p4.toUInt32 >>> ((2 : Int32) &&& 31).toUInt32).toInt32) &&& (3 : Int32))), .val (.long (own_mn q1 q2)), .second, .val (.long (own_mx q1 q2)), .second, .val (.ref b6), .val (.ref b9), .unset, .unset, .unset, .unset, .unset] [(.long q3)]) (fun t k => XS.lload X9.here hx rfl (hb hby at_82) rfl k) ?_
          refine own_f T9 (mkF m 86 #[.val (.long q1), .second, .val (.long q2), .second, .val (.long q3), .second, .val (.int p4), .val (.int zs), .val (.int ze), .val (.int (((p4.toUInt32 >>> ((2 : Int32) &&& 31).toUInt32).toInt32) &&& (3 : Int32))), .val (.long (own_mn q1 q2)), .second, .val (.long (own_mx q1 q2)), .second, .val (.ref b6), .val (.ref b9), .val (.long q3), .second, .unset, .unset, .unset] []) (fun t k => XS.lstore X9.here hx rfl (hb hby at_84) rfl (l' := #[.val (.long q1), .second, .val (.long q2), .second, .val (.long q3), .second, .val (.int p4), .val (.int zs), .val (.int ze), .val (.int (((p4.toUInt32 >>> ((2 : Int32) &&& 31).toUInt32).toInt32) &&& (3 : Int32))), .val (.long (own_mn q1 q2)), .second, .val (.long (own_mx q1 q2)), .second, .val (.ref b6), .val (.ref b9), .val (.long q3), .second, .unset, .unset, .unset]) rfl k) ?_
          refine own_f T9 (mkF m 88 #[.val (.long q1), .second, .val (.long q2), .second, .val (.long q3), .second, .val (.int p4), .val (.int zs), .val (.int ze), .val (.int (((p4.toUInt32 >>> ((2 : Int32) &&& 31).toUInt32).toInt32) &&& (3 : Int32))), .val (.long (own_mn q1 q2)), .second, .val (.long (own_mx q1 q2)), .second, .val (.ref b6), .val (.ref b9), .val (.long q3), .second, .unset, .unset, .unset] [(.int (((p4.toUInt32 >>> ((2 : Int32) &&& 31).toUInt32).toInt32) &&& (3 : Int32)))]) (fun t k => XS.iload X9.here hx rfl (hb hby at_86) rfl k) ?_
          refine own_f T9 (mkF m 89 #[.val (.long q1), .second, .val (.long q2), .second, .val (.long q3), .second, .val (.int p4), .val (.int zs), .val (.int ze), .val (.int (((p4.toUInt32 >>> ((2 : Int32) &&& 31).toUInt32).toInt32) &&& (3 : Int32))), .val (.long (own_mn q1 q2)), .second, .val (.long (own_mx q1 q2)), .second, .val (.ref b6), .val (.ref b9), .val (.long q3), .second, .unset, .unset, .unset] [(.int (1 : Int32)), (.int (((p4.toUInt32 >>> ((2 : Int32) &&& 31).toUInt32).toInt32) &&& (3 : Int32)))]) (fun t k => XT.iconstV X9.here hx rfl (1 : Int32) (hb hby at_88) (by decide) k) ?_
          have jn13 : ∀ (tt : Int64), own_R p.tables e below (own_P s (Q0 Z q1 q2 q3 p4 h0 n0) room_1.cells room_1.slots) (T9.setTop (mkF m 126 #[.val (.long q1), .second, .val (.long q2), .second, .val (.long q3), .second, .val (.int p4), .val (.int zs), .val (.int ze), .val (.int (((p4.toUInt32 >>> ((2 : Int32) &&& 31).toUInt32).toInt32) &&& (3 : Int32))), .val (.long (own_mn q1 q2)), .second, .val (.long (own_mx q1 q2)), .second, .val (.ref b6), .val (.ref b9), .val (.long tt), .second, .unset, .unset, .unset] [])) := by
            intro tt
            obtain ⟨T14, h14, X14, e14, E14, A14, D14, U14, st14⟩ := newO X9 hx hZ hown (own_w hw 15 rfl) (own_w hw 16 rfl) (own_w hw 17 rfl) e9 (g := (mkF m 126 #[.val (.long q1), .second, .val (.long q2), .second, .val (.long q3), .second, .val (.int p4), .val (.int zs), .val (.int ze), .val (.int (((p4.toUInt32 >>> ((2 : Int32) &&& 31).toUInt32).toInt32) &&& (3 : Int32))), .val (.long (own_mn q1 q2)), .second, .val (.long (own_mx q1 q2)), .second, .val (.ref b6), .val (.ref b9), .val (.long tt), .second, .unset, .unset, .unset] [])) rfl (hb hby at_126) (by decide) (by decide)
            obtain ⟨b14, g14⟩ : ∃ z, z = h9.size := ⟨_, rfl⟩
            rw [← g14] at A14 D14 st14
            have ne14_b6 : b6 ≠ b14 := by rw [g14]; exact Nat.ne_of_lt F_11.lt
            have ne14_b9 : b9 ≠ b14 := by rw [g14]; exact Nat.ne_of_lt G9_0.lt
            have ge14 : n0 ≤ b14 := by rw [g14]; exact Zs9
            have Zs14 : n0 ≤ h14.size := Nat.le_trans Zs9 E14.1
            have F_15 := F_10.ext E14
            have F_16 := F_11.ext E14
            have F_17 := F_12.ext E14
            have F_18 := G9_0.ext E14
            have F_19 := G9_1.ext E14
            have F_20 : Fld Z h14 b14 "com/example/reading_buckets/readingbuckets/TimeRange" "from" "Ljava/lang/Long;" .null := D14 (Or.inr (own_w hw 30 rfl)) (ty := (.object "java/lang/Long")) (by decide)
            have F_21 : Fld Z h14 b14 "com/example/reading_buckets/readingbuckets/TimeRange" "to" "Ljava/lang/Long;" .null := D14 (Or.inr (own_w hw 32 rfl)) (ty := (.object "java/lang/Long")) (by decide)
            refine own_f T14 (mkF m 129 #[.val (.long q1), .second, .val (.long q2), .second, .val (.long q3), .second, .val (.int p4), .val (.int zs), .val (.int ze), .val (.int (((p4.toUInt32 >>> ((2 : Int32) &&& 31).toUInt32).toInt32) &&& (3 : Int32))), .val (.long (own_mn q1 q2)), .second, .val (.long (own_mx q1 q2)), .second, .val (.ref b6), .val (.ref b9), .val (.long tt), .second, .unset, .unset, .unset] [(.ref b14)]) st14 ?_
            refine own_f T14 (mkF m 130 #[.val (.long q1), .second, .val (.long q2), .second, .val (.long q3), .second, .val (.int p4), .val (.int zs), .val (.int ze), .val (.int (((p4.toUInt32 >>> ((2 : Int32) &&& 31).toUInt32).toInt32) &&& (3 : Int32))), .val (.long (own_mn q1 q2)), .second, .val (.long (own_mx q1 q2)), .second, .val (.ref b6), .val (.ref b9), .val (.long tt), .second, .unset, .unset, .unset] [(.ref b14), (.ref b14)]) (fun t k => XS.dup X14.here hx rfl (hb hby at_129) rfl rfl k) ?_
            refine own_f T14 (mkF m 132 #[.val (.long q1), .second, .val (.long q2), .second, .val (.long q3), .second, .val (.int p4), .val (.int zs), .val (.int ze), .val (.int (((p4.toUInt32 >>> ((2 : Int32) &&& 31).toUInt32).toInt32) &&& (3 : Int32))), .val (.long (own_mn q1 q2)), .second, .val (.long (own_mx q1 q2)), .second, .val (.ref b6), .val (.ref b9), .val (.long tt), .second, .unset, .unset, .unset] [(.ref b6), (.ref b14), (.ref b14)]) (fun t k => XS.aload X14.here hx rfl (hb hby at_130) rfl rfl k) ?_
            refine own_f T14 (mkF m 134 #[.val (.long q1), .second, .val (.long q2), .second, .val (.long q3), .second, .val (.int p4), .val (.int zs), .val (.int ze), .val (.int (((p4.toUInt32 >>> ((2 : Int32) &&& 31).toUInt32).toInt32) &&& (3 : Int32))), .val (.long (own_mn q1 q2)), .second, .val (.long (own_mx q1 q2)), .second, .val (.ref b6), .val (.ref b9), .val (.long tt), .second, .unset, .unset, .unset] [(.ref b9), (.ref b6), (.ref b14), (.ref b14)]) (fun t k => XS.aload X14.here hx rfl (hb hby at_132) rfl rfl k) ?_
            obtain ⟨_, _, ⟨T22, Lq22, kq_22, nq_22⟩, -, X22, ⟨Lc22, hQ22, lq22, yq22, zq22⟩, st22⟩ := X14.specialBack hx (y := (⟨"com/example/reading_buckets/readingbuckets/TimeRange", "<init>", "(Ljava/lang/Long;Ljava/lang/Long;)V"⟩ : MethodName)) rfl hown (mvT hZ (own_w hw 18 rfl)) (mvT hZ (own_w hw 19 rfl)) (mvT hZ (own_w hw 20 rfl)) (by decide) (backOf (W := 1) (rm911 l Z a0 hw [] b14 b6 b9 _ _ _ _ h14 n0 Zs14 A14 F_20 F_21 F_16 F_17 F_18 F_19 ge14 (own_lohi _ _)) hZ (own_w hw 20 rfl) (own_w hw 17 rfl) (by decide) (by decide)) (g := (mkF m 134 #[.val (.long q1), .second, .val (.long q2), .second, .val (.long q3), .second, .val (.int p4), .val (.int zs), .val (.int ze), .val (.int (((p4.toUInt32 >>> ((2 : Int32) &&& 31).toUInt32).toInt32) &&& (3 : Int32))), .val (.long (own_mn q1 q2)), .second, .val (.long (own_mx q1 q2)), .second, .val (.ref b6), .val (.ref b9), .val (.long tt), .second, .unset, .unset, .unset] [(.ref b9), (.ref b6), (.ref b14), (.ref b14)])) rfl (by rw [hml]; rfl) (Steps.refl _) (a := b14) (argsL := [(.ref b6), (.ref b9)]) (rest := [(.ref b14)]) (lenOf pd__Ljava_lang_Long_Ljava_lang_Long_V rfl) rfl (by show 2 * 0 + _ ≤ _; exact Nat.le_of_eq rfl) (hb hby at_134) (fun _ _ => ⟨rfl, e14, (by decide : 0 + 0 + 0 + 1 + 1 + 1 + 0 ≤ _), (by decide : 0 + 0 + 0 + 1 + 1 + 2 + 0 ≤ _)⟩)
            dsimp only [Pt.U, Pt.locs, Pt.cells, Pt.slots] at X22 lq22 yq22 zq22 st22 hQ22
            subst lq22 yq22 zq22
            obtain ⟨h22, e22⟩ : ∃ z, T22.heap = z := ⟨_, rfl⟩
            rw [e22] at hQ22
            unfold Q911 at hQ22
            obtain ⟨rfl, Nq22, qh22, G22_0, G22_1⟩ := hQ22
            have N22 := Fr.app N9 Nq22
            have Zs22 : n0 ≤ h22.size := Nat.le_trans Zs14 qh22.1
            have F_23 := F_15.keep qh22 (allS ge14 all0)
            have F_24 := F_16.keep qh22
            have F_25 := F_17.keep qh22 (ninS ne14_b6 nin0)
            have F_26 := F_18.keep qh22
            have F_27 := F_19.keep qh22 (ninS ne14_b9 nin0)
            refine own_g T22 (mkF m 137 #[.val (.long q1), .second, .val (.long q2), .second, .val (.long q3), .second, .val (.int p4), .val (.int zs), .val (.int ze), .val (.int (((p4.toUInt32 >>> ((2 : Int32) &&& 31).toUInt32).toInt32) &&& (3 : Int32))), .val (.long (own_mn q1 q2)), .second, .val (.long (own_mx q1 q2)), .second, .val (.ref b6), .val (.ref b9), .val (.long tt), .second, .unset, .unset, .unset] [(.ref b14)]) st22 ?_
            refine own_f T22 (mkF m 139 #[.val (.long q1), .second, .val (.long q2), .second, .val (.long q3), .second, .val (.int p4), .val (.int zs), .val (.int ze), .val (.int (((p4.toUInt32 >>> ((2 : Int32) &&& 31).toUInt32).toInt32) &&& (3 : Int32))), .val (.long (own_mn q1 q2)), .second, .val (.long (own_mx q1 q2)), .second, .val (.ref b6), .val (.ref b9), .val (.long tt), .second, .val (.ref b14), .unset, .unset] []) (fun t k => XS.astore X22.here hx rfl (hb hby at_137) rfl rfl (l' := #[.val (.long q1), .second, .val (.long q2), .second, .val (.long q3), .second, .val (.int p4), .val (.int zs), .val (.int ze), .val (.int (((p4.toUInt32 >>> ((2 : Int32) &&& 31).toUInt32).toInt32) &&& (3 : Int32))), .val (.long (own_mn q1 q2)), .second, .val (.long (own_mx q1 q2)), .second, .val (.ref b6), .val (.ref b9), .val (.long tt), .second, .val (.ref b14), .unset, .unset]) rfl k) ?_
            refine own_f T22 (mkF m 141 #[.val (.long q1), .second, .val (.long q2), .second, .val (.long q3), .second, .val (.int p4), .val (.int zs), .val (.int ze), .val (.int (((p4.toUInt32 >>> ((2 : Int32) &&& 31).toUInt32).toInt32) &&& (3 : Int32))), .val (.long (own_mn q1 q2)), .second, .val (.long (own_mx q1 q2)), .second, .val (.ref b6), .val (.ref b9), .val (.long tt), .second, .val (.ref b14), .unset, .unset] [(.ref b14)]) (fun t k => XS.aload X22.here hx rfl (hb hby at_139) rfl rfl k) ?_
            refine own_f T22 (mkF m 143 #[.val (.long q1), .second, .val (.long q2), .second, .val (.long q3), .second, .val (.int p4), .val (.int zs), .val (.int ze), .val (.int (((p4.toUInt32 >>> ((2 : Int32) &&& 31).toUInt32).toInt32) &&& (3 : Int32))), .val (.long (own_mn q1 q2)), .second, .val (.long (own_mx q1 q2)), .second, .val (.ref b6), .val (.ref b9), .val (.long tt), .second, .val (.ref b14), .unset, .unset] [(.long tt), (.ref b14)]) (fun t k => XS.lload X22.here hx rfl (hb hby at_141) rfl k) ?_
            obtain ⟨cq28, kq28, qa28, qb28, qc28⟩ := isOf hZ e22 G22_0
            obtain ⟨_, _, ⟨T28, Lq28, kq_28, nq_28⟩, -, X28, ⟨Lc28, hQ28, lq28, yq28, zq28⟩, st28⟩ := X22.virtualBack hx (y := (⟨"com/example/reading_buckets/readingbuckets/TimeRange", "endsAtOrBefore", "(J)Z"⟩ : MethodName)) (z := (⟨"com/example/reading_buckets/readingbuckets/TimeRange", "endsAtOrBefore", "(J)Z"⟩ : MethodName)) hown (mvT hZ (own_w hw 33 rfl)) (mvT hZ (own_w hw 34 rfl)) (notFace_of_selects (args := #[]) (mvT hZ (own_w hw 36 rfl))) (mvT hZ (own_w hw 36 rfl)) (mvT hZ (own_w hw 35 rfl)) (by decide) (backOf (W := 0) (rma1 l Z a0 hw [] b14 tt _ _ h22 n0 Zs22 G22_1 F_26 F_27) hZ (own_w hw 37 rfl) (own_w hw 17 rfl) (by decide) (by decide)) qa28 qc28 (g := (mkF m 143 #[.val (.long q1), .second, .val (.long q2), .second, .val (.long q3), .second, .val (.int p4), .val (.int zs), .val (.int ze), .val (.int (((p4.toUInt32 >>> ((2 : Int32) &&& 31).toUInt32).toInt32) &&& (3 : Int32))), .val (.long (own_mn q1 q2)), .second, .val (.long (own_mx q1 q2)), .second, .val (.ref b6), .val (.ref b9), .val (.long tt), .second, .val (.ref b14), .unset, .unset] [(.long tt), (.ref b14)])) rfl (by rw [hml]; rfl) (Steps.refl _) (argsL := [(.long tt)]) (rest := []) (lenOf pd__J_Z rfl) rfl (by show 2 * 0 + _ ≤ _; exact Nat.le_of_eq rfl) (hb hby at_143) (fun _ _ => ⟨rfl, e22, (by decide : 0 + 0 + 0 + 1 + 1 + 1 + 0 + 0 ≤ _), (by decide : 0 + 0 + 0 + 1 + 1 + 2 + 0 + 0 ≤ _)⟩)
            dsimp only [Pt.U, Pt.locs, Pt.cells, Pt.slots] at X28 lq28 yq28 zq28 st28 hQ28
            subst lq28 yq28 zq28
            obtain ⟨h28, e28⟩ : ∃ z, T28.heap = z := ⟨_, rfl⟩
            rw [e28] at hQ28
            unfold Qa1 at hQ28
            obtain ⟨rfl, Nq28, qh28⟩ := hQ28
            have N28 := Fr.app N22 Nq28
            rw [qh28] at e28
            refine own_g T28 (mkF m 146 #[.val (.long q1), .second, .val (.long q2), .second, .val (.long q3), .second, .val (.int p4), .val (.int zs), .val (.int ze), .val (.int (((p4.toUInt32 >>> ((2 : Int32) &&& 31).toUInt32).toInt32) &&& (3 : Int32))), .val (.long (own_mn q1 q2)), .second, .val (.long (own_mx q1 q2)), .second, .val (.ref b6), .val (.ref b9), .val (.long tt), .second, .val (.ref b14), .unset, .unset] [(.int (own_ge (own_mx q1 q2) tt))]) st28 ?_
            refine own_f T28 (mkF m 148 #[.val (.long q1), .second, .val (.long q2), .second, .val (.long q3), .second, .val (.int p4), .val (.int zs), .val (.int ze), .val (.int (((p4.toUInt32 >>> ((2 : Int32) &&& 31).toUInt32).toInt32) &&& (3 : Int32))), .val (.long (own_mn q1 q2)), .second, .val (.long (own_mx q1 q2)), .second, .val (.ref b6), .val (.ref b9), .val (.long tt), .second, .val (.ref b14), .val (.int (own_ge (own_mx q1 q2) tt)), .unset] []) (fun t k => XS.istore X28.here hx rfl (hb hby at_146) rfl (l' := #[.val (.long q1), .second, .val (.long q2), .second, .val (.long q3), .second, .val (.int p4), .val (.int zs), .val (.int ze), .val (.int (((p4.toUInt32 >>> ((2 : Int32) &&& 31).toUInt32).toInt32) &&& (3 : Int32))), .val (.long (own_mn q1 q2)), .second, .val (.long (own_mx q1 q2)), .second, .val (.ref b6), .val (.ref b9), .val (.long tt), .second, .val (.ref b14), .val (.int (own_ge (own_mx q1 q2) tt)), .unset]) rfl k) ?_
            refine own_f T28 (mkF m 150 #[.val (.long q1), .second, .val (.long q2), .second, .val (.long q3), .second, .val (.int p4), .val (.int zs), .val (.int ze), .val (.int (((p4.toUInt32 >>> ((2 : Int32) &&& 31).toUInt32).toInt32) &&& (3 : Int32))), .val (.long (own_mn q1 q2)), .second, .val (.long (own_mx q1 q2)), .second, .val (.ref b6), .val (.ref b9), .val (.long tt), .second, .val (.ref b14), .val (.int (own_ge (own_mx q1 q2) tt)), .unset] [(.int ze)]) (fun t k => XS.iload X28.here hx rfl (hb hby at_148) rfl k) ?_
            refine own_f T28 (mkF m 159 #[.val (.long q1), .second, .val (.long q2), .second, .val (.long q3), .second, .val (.int p4), .val (.int zs), .val (.int ze), .val (.int (((p4.toUInt32 >>> ((2 : Int32) &&& 31).toUInt32).toInt32) &&& (3 : Int32))), .val (.long (own_mn q1 q2)), .second, .val (.long (own_mx q1 q2)), .second, .val (.ref b6), .val (.ref b9), .val (.long tt), .second, .val (.ref b14), .val (.int (own_ge (own_mx q1 q2) tt)), .unset] []) (fun t k => XS.ifYes X28.here hx rfl (pc0 := 150) (pc' := 159) rfl (hb hby at_150) rfl (XT.i0_eq_t hc8) (by decide) (by decide) k) ?_
            refine own_f T28 (mkF m 161 #[.val (.long q1), .second, .val (.long q2), .second, .val (.long q3), .second, .val (.int p4), .val (.int zs), .val (.int ze), .val (.int (((p4.toUInt32 >>> ((2 : Int32) &&& 31).toUInt32).toInt32) &&& (3 : Int32))), .val (.long (own_mn q1 q2)), .second, .val (.long (own_mx q1 q2)), .second, .val (.ref b6), .val (.ref b9), .val (.long tt), .second, .val (.ref b14), .val (.int (own_ge (own_mx q1 q2) tt)), .unset] [(.long tt)]) (fun t k => XS.lload X28.here hx rfl (hb hby at_159) rfl k) ?_
            refine own_f T28 (mkF m 163 #[.val (.long q1), .second, .val (.long q2), .second, .val (.long q3), .second, .val (.int p4), .val (.int zs), .val (.int ze), .val (.int (((p4.toUInt32 >>> ((2 : Int32) &&& 31).toUInt32).toInt32) &&& (3 : Int32))), .val (.long (own_mn q1 q2)), .second, .val (.long (own_mx q1 q2)), .second, .val (.ref b6), .val (.ref b9), .val (.long tt), .second, .val (.ref b14), .val (.int (own_ge (own_mx q1 q2) tt)), .unset] [(.long (own_mx q1 q2)), (.long tt)]) (fun t k => XS.lload X28.here hx rfl (hb hby at_161) rfl k) ?_
            refine own_f T28 (mkF m 164 #[.val (.long q1), .second, .val (.long q2), .second, .val (.long q3), .second, .val (.int p4), .val (.int zs), .val (.int ze), .val (.int (((p4.toUInt32 >>> ((2 : Int32) &&& 31).toUInt32).toInt32) &&& (3 : Int32))), .val (.long (own_mn q1 q2)), .second, .val (.long (own_mx q1 q2)), .second, .val (.ref b6), .val (.ref b9), .val (.long tt), .second, .val (.ref b14), .val (.int (own_ge (own_mx q1 q2) tt)), .unset] [(.int (XT.cmpL tt (own_mx q1 q2)))]) (fun t k => XT.lcmp X28.here hx rfl (hb hby at_163) rfl k) ?_
            by_cases hc29 : tt < (own_mx q1 q2)
            · skip
              refine own_f T28 (mkF m 171 #[.val (.long q1), .second, .val (.long q2), .second, .val (.long q3), .second, .val (.int p4), .val (.int zs), .val (.int ze), .val (.int (((p4.toUInt32 >>> ((2 : Int32) &&& 31).toUInt32).toInt32) &&& (3 : Int32))), .val (.long (own_mn q1 q2)), .second, .val (.long (own_mx q1 q2)), .second, .val (.ref b6), .val (.ref b9), .val (.long tt), .second, .val (.ref b14), .val (.int (own_ge (own_mx q1 q2) tt)), .unset] []) (fun t k => XS.ifYes X28.here hx rfl (pc0 := 164) (pc' := 171) rfl (hb hby at_164) rfl (XT.ll_lt_t hc29) (by decide) (by decide) k) ?_
              refine own_f T28 (mkF m 172 #[.val (.long q1), .second, .val (.long q2), .second, .val (.long q3), .second, .val (.int p4), .val (.int zs), .val (.int ze), .val (.int (((p4.toUInt32 >>> ((2 : Int32) &&& 31).toUInt32).toInt32) &&& (3 : Int32))), .val (.long (own_mn q1 q2)), .second, .val (.long (own_mx q1 q2)), .second, .val (.ref b6), .val (.ref b9), .val (.long tt), .second, .val (.ref b14), .val (.int (own_ge (own_mx q1 q2) tt)), .unset] [(.int (0 : Int32))]) (fun t k => XT.iconstV X28.here hx rfl (0 : Int32) (hb hby at_171) (by decide) k) ?_
              refine own_f T28 (mkF m 174 #[.val (.long q1), .second, .val (.long q2), .second, .val (.long q3), .second, .val (.int p4), .val (.int zs), .val (.int ze), .val (.int (((p4.toUInt32 >>> ((2 : Int32) &&& 31).toUInt32).toInt32) &&& (3 : Int32))), .val (.long (own_mn q1 q2)), .second, .val (.long (own_mx q1 q2)), .second, .val (.ref b6), .val (.ref b9), .val (.long tt), .second, .val (.ref b14), .val (.int (own_ge (own_mx q1 q2) tt)), .val (.int (0 : Int32))] []) (fun t k => XS.istore X28.here hx rfl (hb hby at_172) rfl (l' := #[.val (.long q1), .second, .val (.long q2), .second, .val (.long q3), .second, .val (.int p4), .val (.int zs), .val (.int ze), .val (.int (((p4.toUInt32 >>> ((2 : Int32) &&& 31).toUInt32).toInt32) &&& (3 : Int32))), .val (.long (own_mn q1 q2)), .second, .val (.long (own_mx q1 q2)), .second, .val (.ref b6), .val (.ref b9), .val (.long tt), .second, .val (.ref b14), .val (.int (own_ge (own_mx q1 q2) tt)), .val (.int (0 : Int32))]) rfl k) ?_
              refine own_f T28 (mkF m 176 #[.val (.long q1), .second, .val (.long q2), .second, .val (.long q3), .second, .val (.int p4), .val (.int zs), .val (.int ze), .val (.int (((p4.toUInt32 >>> ((2 : Int32) &&& 31).toUInt32).toInt32) &&& (3 : Int32))), .val (.long (own_mn q1 q2)), .second, .val (.long (own_mx q1 q2)), .second, .val (.ref b6), .val (.ref b9), .val (.long tt), .second, .val (.ref b14), .val (.int (own_ge (own_mx q1 q2) tt)), .val (.int (0 : Int32))] [(.int (own_ge (own_mx q1 q2) tt))]) (fun t k => XS.iload X28.here hx rfl (hb hby at_174) rfl k) ?_
              refine own_f T28 (mkF m 178 #[.val (.long q1), .second, .val (.long q2), .second, .val (.long q3), .second, .val (.int p4), .val (.int zs), .val (.int ze), .val (.int (((p4.toUInt32 >>> ((2 : Int32) &&& 31).toUInt32).toInt32) &&& (3 : Int32))), .val (.long (own_mn q1 q2)), .second, .val (.long (own_mx q1 q2)), .second, .val (.ref b6), .val (.ref b9), .val (.long tt), .second, .val (.ref b14), .val (.int (own_ge (own_mx q1 q2) tt)), .val (.int (0 : Int32))] [(.int (0 : Int32)), (.int (own_ge (own_mx q1 q2) tt))]) (fun t k => XS.iload X28.here hx rfl (hb hby at_176) rfl k) ?_
              have hc30 : (own_ge (own_mx q1 q2) tt) = (0 : Int32) := by rw [own_ge, if_pos hc29] <;> rfl
              refine own_f T28 (mkF m 181 #[.val (.long q1), .second, .val (.long q2), .second, .val (.long q3), .second, .val (.int p4), .val (.int zs), .val (.int ze), .val (.int (((p4.toUInt32 >>> ((2 : Int32) &&& 31).toUInt32).toInt32) &&& (3 : Int32))), .val (.long (own_mn q1 q2)), .second, .val (.long (own_mx q1 q2)), .second, .val (.ref b6), .val (.ref b9), .val (.long tt), .second, .val (.ref b14), .val (.int (own_ge (own_mx q1 q2) tt)), .val (.int (0 : Int32))] []) (fun t k => XS.icmpNo X28.here hx rfl (hb hby at_178) rfl (XT.ii_ne_f hc30) k) ?_
              refine own_f T28 (mkF m 182 #[.val (.long q1), .second, .val (.long q2), .second, .val (.long q3), .second, .val (.int p4), .val (.int zs), .val (.int ze), .val (.int (((p4.toUInt32 >>> ((2 : Int32) &&& 31).toUInt32).toInt32) &&& (3 : Int32))), .val (.long (own_mn q1 q2)), .second, .val (.long (own_mx q1 q2)), .second, .val (.ref b6), .val (.ref b9), .val (.long tt), .second, .val (.ref b14), .val (.int (own_ge (own_mx q1 q2) tt)), .val (.int (0 : Int32))] [(.int (1 : Int32))]) (fun t k => XT.iconstV X28.here hx rfl (1 : Int32) (hb hby at_181) (by decide) k) ?_
              refine own_f T28 (mkF m 186 #[.val (.long q1), .second, .val (.long q2), .second, .val (.long q3), .second, .val (.int p4), .val (.int zs), .val (.int ze), .val (.int (((p4.toUInt32 >>> ((2 : Int32) &&& 31).toUInt32).toInt32) &&& (3 : Int32))), .val (.long (own_mn q1 q2)), .second, .val (.long (own_mx q1 q2)), .second, .val (.ref b6), .val (.ref b9), .val (.long tt), .second, .val (.ref b14), .val (.int (own_ge (own_mx q1 q2) tt)), .val (.int (0 : Int32))] [(.int (1 : Int32))]) (fun t k => XS.goto X28.here hx rfl (pc0 := 182) (pc' := 186) rfl (hb hby at_182) (by decide) (by decide) k) ?_
              obtain ⟨fs, hr, hrun, hended, hW, hsame⟩ := X28.leave (v := some (.int (1 : Int32))) (fun h => by rw [Bd.returns] at h; cases h)
              refine ⟨_, _, retN X28 hx (t := .boolean) Bd.returns (by simp) (hb hby at_186) hr, hrun, hended, _, _, rfl, ?_, ⟨_, rfl⟩, hW, hsame.mono (by decide) (by decide)⟩
              show Q0 Z q1 q2 q3 p4 h0 n0 _ T28.heap _
              rw [e28]
              exact ⟨rfl, N28⟩
            · skip
              refine own_f T28 (mkF m 167 #[.val (.long q1), .second, .val (.long q2), .second, .val (.long q3), .second, .val (.int p4), .val (.int zs), .val (.int ze), .val (.int (((p4.toUInt32 >>> ((2 : Int32) &&& 31).toUInt32).toInt32) &&& (3 : Int32))), .val (.long (own_mn q1 q2)), .second, .val (.long (own_mx q1 q2)), .second, .val (.ref b6), .val (.ref b9), .val (.long tt), .second, .val (.ref b14), .val (.int (own_ge (own_mx q1 q2) tt)), .unset] []) (fun t k => XS.ifNo X28.here hx rfl (hb hby at_164) rfl (XT.ll_lt_f hc29) k) ?_
              refine own_f T28 (mkF m 168 #[.val (.long q1), .second, .val (.long q2), .second, .val (.long q3), .second, .val (.int p4), .val (.int zs), .val (.int ze), .val (.int (((p4.toUInt32 >>> ((2 : Int32) &&& 31).toUInt32).toInt32) &&& (3 : Int32))), .val (.long (own_mn q1 q2)), .second, .val (.long (own_mx q1 q2)), .second, .val (.ref b6), .val (.ref b9), .val (.long tt), .second, .val (.ref b14), .val (.int (own_ge (own_mx q1 q2) tt)), .unset] [(.int (1 : Int32))]) (fun t k => XT.iconstV X28.here hx rfl (1 : Int32) (hb hby at_167) (by decide) k) ?_
              refine own_f T28 (mkF m 172 #[.val (.long q1), .second, .val (.long q2), .second, .val (.long q3), .second, .val (.int p4), .val (.int zs), .val (.int ze), .val (.int (((p4.toUInt32 >>> ((2 : Int32) &&& 31).toUInt32).toInt32) &&& (3 : Int32))), .val (.long (own_mn q1 q2)), .second, .val (.long (own_mx q1 q2)), .second, .val (.ref b6), .val (.ref b9), .val (.long tt), .second, .val (.ref b14), .val (.int (own_ge (own_mx q1 q2) tt)), .unset] [(.int (1 : Int32))]) (fun t k => XS.goto X28.here hx rfl (pc0 := 168) (pc' := 172) rfl (hb hby at_168) (by decide) (by decide) k) ?_
              refine own_f T28 (mkF m 174 #[.val (.long q1), .second, .val (.long q2), .second, .val (.long q3), .second, .val (.int p4), .val (.int zs), .val (.int ze), .val (.int (((p4.toUInt32 >>> ((2 : Int32) &&& 31).toUInt32).toInt32) &&& (3 : Int32))), .val (.long (own_mn q1 q2)), .second, .val (.long (own_mx q1 q2)), .second, .val (.ref b6), .val (.ref b9), .val (.long tt), .second, .val (.ref b14), .val (.int (own_ge (own_mx q1 q2) tt)), .val (.int (1 : Int32))] []) (fun t k => XS.istore X28.here hx rfl (hb hby at_172) rfl (l' := #[.val (.long q1), .second, .val (.long q2), .second, .val (.long q3), .second, .val (.int p4), .val (.int zs), .val (.int ze), .val (.int (((p4.toUInt32 >>> ((2 : Int32) &&& 31).toUInt32).toInt32) &&& (3 : Int32))), .val (.long (own_mn q1 q2)), .second, .val (.long (own_mx q1 q2)), .second, .val (.ref b6), .val (.ref b9), .val (.long tt), .second, .val (.ref b14), .val (.int (own_ge (own_mx q1 q2) tt)), .val (.int (1 : Int32))]) rfl k) ?_
              refine own_f T28 (mkF m 176 #[.val (.long q1), .second, .val (.long q2), .second, .val (.long q3), .second, .val (.int p4), .val (.int zs), .val (.int ze), .val (.int (((p4.toUInt32 >>> ((2 : Int32) &&& 31).toUInt32).toInt32) &&& (3 : Int32))), .val (.long (own_mn q1 q2)), .second, .val (.long (own_mx q1 q2)), .second, .val (.ref b6), .val (.ref b9), .val (.long tt), .second, .val (.ref b14), .val (.int (own_ge (own_mx q1 q2) tt)), .val (.int (1 : Int32))] [(.int (own_ge (own_mx q1 q2) tt))]) (fun t k => XS.iload X28.here hx rfl (hb hby at_174) rfl k) ?_
              refine own_f T28 (mkF m 178 #[.val (.long q1), .second, .val (.long q2), .second, .val (.long q3), .second, .val (.int p4), .val (.int zs), .val (.int ze), .val (.int (((p4.toUInt32 >>> ((2 : Int32) &&& 31).toUInt32).toInt32) &&& (3 : Int32))), .val (.long (own_mn q1 q2)), .second, .val (.long (own_mx q1 q2)), .second, .val (.ref b6), .val (.ref b9), .val (.long tt), .second, .val (.ref b14), .val (.int (own_ge (own_mx q1 q2) tt)), .val (.int (1 : Int32))] [(.int (1 : Int32)), (.int (own_ge (own_mx q1 q2) tt))]) (fun t k => XS.iload X28.here hx rfl (hb hby at_176) rfl k) ?_
              have hc31 : (own_ge (own_mx q1 q2) tt) = (1 : Int32) := by rw [own_ge, if_neg hc29] <;> rfl
              refine own_f T28 (mkF m 181 #[.val (.long q1), .second, .val (.long q2), .second, .val (.long q3), .second, .val (.int p4), .val (.int zs), .val (.int ze), .val (.int (((p4.toUInt32 >>> ((2 : Int32) &&& 31).toUInt32).toInt32) &&& (3 : Int32))), .val (.long (own_mn q1 q2)), .second, .val (.long (own_mx q1 q2)), .second, .val (.ref b6), .val (.ref b9), .val (.long tt), .second, .val (.ref b14), .val (.int (own_ge (own_mx q1 q2) tt)), .val (.int (1 : Int32))] []) (fun t k => XS.icmpNo X28.here hx rfl (hb hby at_178) rfl (XT.ii_ne_f hc31) k) ?_
              refine own_f T28 (mkF m 182 #[.val (.long q1), .second, .val (.long q2), .second, .val (.long q3), .second, .val (.int p4), .val (.int zs), .val (.int ze), .val (.int (((p4.toUInt32 >>> ((2 : Int32) &&& 31).toUInt32).toInt32) &&& (3 : Int32))), .val (.long (own_mn q1 q2)), .second, .val (.long (own_mx q1 q2)), .second, .val (.ref b6), .val (.ref b9), .val (.long tt), .second, .val (.ref b14), .val (.int (own_ge (own_mx q1 q2) tt)), .val (.int (1 : Int32))] [(.int (1 : Int32))]) (fun t k => XT.iconstV X28.here hx rfl (1 : Int32) (hb hby at_181) (by decide) k) ?_
              refine own_f T28 (mkF m 186 #[.val (.long q1), .second, .val (.long q2), .second, .val (.long q3), .second, .val (.int p4), .val (.int zs), .val (.int ze), .val (.int (((p4.toUInt32 >>> ((2 : Int32) &&& 31).toUInt32).toInt32) &&& (3 : Int32))), .val (.long (own_mn q1 q2)), .second, .val (.long (own_mx q1 q2)), .second, .val (.ref b6), .val (.ref b9), .val (.long tt), .second, .val (.ref b14), .val (.int (own_ge (own_mx q1 q2) tt)), .val (.int (1 : Int32))] [(.int (1 : Int32))]) (fun t k => XS.goto X28.here hx rfl (pc0 := 182) (pc' := 186) rfl (hb hby at_182) (by decide) (by decide) k) ?_
              obtain ⟨fs, hr, hrun, hended, hW, hsame⟩ := X28.leave (v := some (.int (1 : Int32))) (fun h => by rw [Bd.returns] at h; cases h)
              refine ⟨_, _, retN X28 hx (t := .boolean) Bd.returns (by simp) (hb hby at_186) hr, hrun, hended, _, _, rfl, ?_, ⟨_, rfl⟩, hW, hsame.mono (by decide) (by decide)⟩
              show Q0 Z q1 q2 q3 p4 h0 n0 _ T28.heap _
              rw [e28]
              exact ⟨rfl, N28⟩
          by_cases hc32 : (((p4.toUInt32 >>> ((2 : Int32) &&& 31).toUInt32).toInt32) &&& (3 : Int32)) = (1 : Int32)
          · skip
            refine own_f T9 (mkF m 92 #[.val (.long q1), .second, .val (.long q2), .second, .val (.long q3), .second, .val (.int p4), .val (.int zs), .val (.int ze), .val (.int (((p4.toUInt32 >>> ((2 : Int32) &&& 31).toUInt32).toInt32) &&& (3 : Int32))), .val (.long (own_mn q1 q2)), .second, .val (.long (own_mx q1 q2)), .second, .val (.ref b6), .val (.ref b9), .val (.long q3), .second, .unset, .unset, .unset] []) (fun t k => XS.icmpNo X9.here hx rfl (hb hby at_89) rfl (XT.ii_ne_f hc32) k) ?_
            refine own_f T9 (mkF m 94 #[.val (.long q1), .second, .val (.long q2), .second, .val (.long q3), .second, .val (.int p4), .val (.int zs), .val (.int ze), .val (.int (((p4.toUInt32 >>> ((2 : Int32) &&& 31).toUInt32).toInt32) &&& (3 : Int32))), .val (.long (own_mn q1 q2)), .second, .val (.long (own_mx q1 q2)), .second, .val (.ref b6), .val (.ref b9), .val (.long q3), .second, .unset, .unset, .unset] [(.long (own_mx q1 q2))]) (fun t k => XS.lload X9.here hx rfl (hb hby at_92) rfl k) ?_
            refine own_f T9 (mkF m 95 #[.val (.long q1), .second, .val (.long q2), .second, .val (.long q3), .second, .val (.int p4), .val (.int zs), .val (.int ze), .val (.int (((p4.toUInt32 >>> ((2 : Int32) &&& 31).toUInt32).toInt32) &&& (3 : Int32))), .val (.long (own_mn q1 q2)), .second, .val (.long (own_mx q1 q2)), .second, .val (.ref b6), .val (.ref b9), .val (.long q3), .second, .unset, .unset, .unset] [(.long (1 : Int64)), (.long (own_mx q1 q2))]) (fun t k => XT.lconstV X9.here hx rfl (1 : Int64) (hb hby at_94) (by decide) k) ?_
            refine own_f T9 (mkF m 96 #[.val (.long q1), .second, .val (.long q2), .second, .val (.long q3), .second, .val (.int p4), .val (.int zs), .val (.int ze), .val (.int (((p4.toUInt32 >>> ((2 : Int32) &&& 31).toUInt32).toInt32) &&& (3 : Int32))), .val (.long (own_mn q1 q2)), .second, .val (.long (own_mx q1 q2)), .second, .val (.ref b6), .val (.ref b9), .val (.long q3), .second, .unset, .unset, .unset] [(.long ((own_mx q1 q2) - (1 : Int64)))]) (fun t k => XS.lsub X9.here hx rfl (hb hby at_95) rfl k) ?_
            refine own_f T9 (mkF m 98 #[.val (.long q1), .second, .val (.long q2), .second, .val (.long q3), .second, .val (.int p4), .val (.int zs), .val (.int ze), .val (.int (((p4.toUInt32 >>> ((2 : Int32) &&& 31).toUInt32).toInt32) &&& (3 : Int32))), .val (.long (own_mn q1 q2)), .second, .val (.long (own_mx q1 q2)), .second, .val (.ref b6), .val (.ref b9), .val (.long ((own_mx q1 q2) - (1 : Int64))), .second, .unset, .unset, .unset] []) (fun t k => XS.lstore X9.here hx rfl (hb hby at_96) rfl (l' := #[.val (.long q1), .second, .val (.long q2), .second, .val (.long q3), .second, .val (.int p4), .val (.int zs), .val (.int ze), .val (.int (((p4.toUInt32 >>> ((2 : Int32) &&& 31).toUInt32).toInt32) &&& (3 : Int32))), .val (.long (own_mn q1 q2)), .second, .val (.long (own_mx q1 q2)), .second, .val (.ref b6), .val (.ref b9), .val (.long ((own_mx q1 q2) - (1 : Int64))), .second, .unset, .unset, .unset]) rfl k) ?_
            refine own_f T9 (mkF m 126 #[.val (.long q1), .second, .val (.long q2), .second, .val (.long q3), .second, .val (.int p4), .val (.int zs), .val (.int ze), .val (.int (((p4.toUInt32 >>> ((2 : Int32) &&& 31).toUInt32).toInt32) &&& (3 : Int32))), .val (.long (own_mn q1 q2)), .second, .val (.long (own_mx q1 q2)), .second, .val (.ref b6), .val (.ref b9), .val (.long ((own_mx q1 q2) - (1 : Int64))), .second, .unset, .unset, .unset] []) (fun t k => XS.goto X9.here hx rfl (pc0 := 98) (pc' := 126) rfl (hb hby at_98) (by decide) (by decide) k) ?_
            exact jn13 ((own_mx q1 q2) - (1 : Int64))
          · skip
            refine own_f T9 (mkF m 101 #[.val (.long q1), .second, .val (.long q2), .second, .val (.long q3), .second, .val (.int p4), .val (.int zs), .val (.int ze), .val (.int (((p4.toUInt32 >>> ((2 : Int32) &&& 31).toUInt32).toInt32) &&& (3 : Int32))), .val (.long (own_mn q1 q2)), .second, .val (.long (own_mx q1 q2)), .second, .val (.ref b6), .val (.ref b9), .val (.long q3), .second, .unset, .unset, .unset] []) (fun t k => XS.icmpYes X9.here hx rfl (pc0 := 89) (pc' := 101) rfl (hb hby at_89) rfl (XT.ii_ne_t hc32) (by decide) (by decide) k) ?_
            refine own_f T9 (mkF m 103 #[.val (.long q1), .second, .val (.long q2), .second, .val (.long q3), .second, .val (.int p4), .val (.int zs), .val (.int ze), .val (.int (((p4.toUInt32 >>> ((2 : Int32) &&& 31).toUInt32).toInt32) &&& (3 : Int32))), .val (.long (own_mn q1 q2)), .second, .val (.long (own_mx q1 q2)), .second, .val (.ref b6), .val (.ref b9), .val (.long q3), .second, .unset, .unset, .unset] [(.int (((p4.toUInt32 >>> ((2 : Int32) &&& 31).toUInt32).toInt32) &&& (3 : Int32)))]) (fun t k => XS.iload X9.here hx rfl (hb hby at_101) rfl k) ?_
            refine own_f T9 (mkF m 104 #[.val (.long q1), .second, .val (.long q2), .second, .val (.long q3), .second, .val (.int p4), .val (.int zs), .val (.int ze), .val (.int (((p4.toUInt32 >>> ((2 : Int32) &&& 31).toUInt32).toInt32) &&& (3 : Int32))), .val (.long (own_mn q1 q2)), .second, .val (.long (own_mx q1 q2)), .second, .val (.ref b6), .val (.ref b9), .val (.long q3), .second, .unset, .unset, .unset] [(.int (2 : Int32)), (.int (((p4.toUInt32 >>> ((2 : Int32) &&& 31).toUInt32).toInt32) &&& (3 : Int32)))]) (fun t k => XT.iconstV X9.here hx rfl (2 : Int32) (hb hby at_103) (by decide) k) ?_
            by_cases hc33 : (((p4.toUInt32 >>> ((2 : Int32) &&& 31).toUInt32).toInt32) &&& (3 : Int32)) = (2 : Int32)
            · skip
              refine own_f T9 (mkF m 107 #[.val (.long q1), .second, .val (.long q2), .second, .val (.long q3), .second, .val (.int p4), .val (.int zs), .val (.int ze), .val (.int (((p4.toUInt32 >>> ((2 : Int32) &&& 31).toUInt32).toInt32) &&& (3 : Int32))), .val (.long (own_mn q1 q2)), .second, .val (.long (own_mx q1 q2)), .second, .val (.ref b6), .val (.ref b9), .val (.long q3), .second, .unset, .unset, .unset] []) (fun t k => XS.icmpNo X9.here hx rfl (hb hby at_104) rfl (XT.ii_ne_f hc33) k) ?_
              refine own_f T9 (mkF m 109 #[.val (.long q1), .second, .val (.long q2), .second, .val (.long q3), .second, .val (.int p4), .val (.int zs), .val (.int ze), .val (.int (((p4.toUInt32 >>> ((2 : Int32) &&& 31).toUInt32).toInt32) &&& (3 : Int32))), .val (.long (own_mn q1 q2)), .second, .val (.long (own_mx q1 q2)), .second, .val (.ref b6), .val (.ref b9), .val (.long q3), .second, .unset, .unset, .unset] [(.long (own_mx q1 q2))]) (fun t k => XS.lload X9.here hx rfl (hb hby at_107) rfl k) ?_
              refine own_f T9 (mkF m 111 #[.val (.long q1), .second, .val (.long q2), .second, .val (.long q3), .second, .val (.int p4), .val (.int zs), .val (.int ze), .val (.int (((p4.toUInt32 >>> ((2 : Int32) &&& 31).toUInt32).toInt32) &&& (3 : Int32))), .val (.long (own_mn q1 q2)), .second, .val (.long (own_mx q1 q2)), .second, .val (.ref b6), .val (.ref b9), .val (.long (own_mx q1 q2)), .second, .unset, .unset, .unset] []) (fun t k => XS.lstore X9.here hx rfl (hb hby at_109) rfl (l' := #[.val (.long q1), .second, .val (.long q2), .second, .val (.long q3), .second, .val (.int p4), .val (.int zs), .val (.int ze), .val (.int (((p4.toUInt32 >>> ((2 : Int32) &&& 31).toUInt32).toInt32) &&& (3 : Int32))), .val (.long (own_mn q1 q2)), .second, .val (.long (own_mx q1 q2)), .second, .val (.ref b6), .val (.ref b9), .val (.long (own_mx q1 q2)), .second, .unset, .unset, .unset]) rfl k) ?_
              refine own_f T9 (mkF m 126 #[.val (.long q1), .second, .val (.long q2), .second, .val (.long q3), .second, .val (.int p4), .val (.int zs), .val (.int ze), .val (.int (((p4.toUInt32 >>> ((2 : Int32) &&& 31).toUInt32).toInt32) &&& (3 : Int32))), .val (.long (own_mn q1 q2)), .second, .val (.long (own_mx q1 q2)), .second, .val (.ref b6), .val (.ref b9), .val (.long (own_mx q1 q2)), .second, .unset, .unset, .unset] []) (fun t k => XS.goto X9.here hx rfl (pc0 := 111) (pc' := 126) rfl (hb hby at_111) (by decide) (by decide) k) ?_
              exact jn13 (own_mx q1 q2)
            · skip
              refine own_f T9 (mkF m 114 #[.val (.long q1), .second, .val (.long q2), .second, .val (.long q3), .second, .val (.int p4), .val (.int zs), .val (.int ze), .val (.int (((p4.toUInt32 >>> ((2 : Int32) &&& 31).toUInt32).toInt32) &&& (3 : Int32))), .val (.long (own_mn q1 q2)), .second, .val (.long (own_mx q1 q2)), .second, .val (.ref b6), .val (.ref b9), .val (.long q3), .second, .unset, .unset, .unset] []) (fun t k => XS.icmpYes X9.here hx rfl (pc0 := 104) (pc' := 114) rfl (hb hby at_104) rfl (XT.ii_ne_t hc33) (by decide) (by decide) k) ?_
              refine own_f T9 (mkF m 116 #[.val (.long q1), .second, .val (.long q2), .second, .val (.long q3), .second, .val (.int p4), .val (.int zs), .val (.int ze), .val (.int (((p4.toUInt32 >>> ((2 : Int32) &&& 31).toUInt32).toInt32) &&& (3 : Int32))), .val (.long (own_mn q1 q2)), .second, .val (.long (own_mx q1 q2)), .second, .val (.ref b6), .val (.ref b9), .val (.long q3), .second, .unset, .unset, .unset] [(.int (((p4.toUInt32 >>> ((2 : Int32) &&& 31).toUInt32).toInt32) &&& (3 : Int32)))]) (fun t k => XS.iload X9.here hx rfl (hb hby at_114) rfl k) ?_
              refine own_f T9 (mkF m 117 #[.val (.long q1), .second, .val (.long q2), .second, .val (.long q3), .second, .val (.int p4), .val (.int zs), .val (.int ze), .val (.int (((p4.toUInt32 >>> ((2 : Int32) &&& 31).toUInt32).toInt32) &&& (3 : Int32))), .val (.long (own_mn q1 q2)), .second, .val (.long (own_mx q1 q2)), .second, .val (.ref b6), .val (.ref b9), .val (.long q3), .second, .unset, .unset, .unset] [(.int (3 : Int32)), (.int (((p4.toUInt32 >>> ((2 : Int32) &&& 31).toUInt32).toInt32) &&& (3 : Int32)))]) (fun t k => XT.iconstV X9.here hx rfl (3 : Int32) (hb hby at_116) (by decide) k) ?_
              by_cases hc34 : (((p4.toUInt32 >>> ((2 : Int32) &&& 31).toUInt32).toInt32) &&& (3 : Int32)) = (3 : Int32)
              · skip
                refine own_f T9 (mkF m 120 #[.val (.long q1), .second, .val (.long q2), .second, .val (.long q3), .second, .val (.int p4), .val (.int zs), .val (.int ze), .val (.int (((p4.toUInt32 >>> ((2 : Int32) &&& 31).toUInt32).toInt32) &&& (3 : Int32))), .val (.long (own_mn q1 q2)), .second, .val (.long (own_mx q1 q2)), .second, .val (.ref b6), .val (.ref b9), .val (.long q3), .second, .unset, .unset, .unset] []) (fun t k => XS.icmpNo X9.here hx rfl (hb hby at_117) rfl (XT.ii_ne_f hc34) k) ?_
                refine own_f T9 (mkF m 122 #[.val (.long q1), .second, .val (.long q2), .second, .val (.long q3), .second, .val (.int p4), .val (.int zs), .val (.int ze), .val (.int (((p4.toUInt32 >>> ((2 : Int32) &&& 31).toUInt32).toInt32) &&& (3 : Int32))), .val (.long (own_mn q1 q2)), .second, .val (.long (own_mx q1 q2)), .second, .val (.ref b6), .val (.ref b9), .val (.long q3), .second, .unset, .unset, .unset] [(.long (own_mx q1 q2))]) (fun t k => XS.lload X9.here hx rfl (hb hby at_120) rfl k) ?_
                refine own_f T9 (mkF m 123 #[.val (.long q1), .second, .val (.long q2), .second, .val (.long q3), .second, .val (.int p4), .val (.int zs), .val (.int ze), .val (.int (((p4.toUInt32 >>> ((2 : Int32) &&& 31).toUInt32).toInt32) &&& (3 : Int32))), .val (.long (own_mn q1 q2)), .second, .val (.long (own_mx q1 q2)), .second, .val (.ref b6), .val (.ref b9), .val (.long q3), .second, .unset, .unset, .unset] [(.long (1 : Int64)), (.long (own_mx q1 q2))]) (fun t k => XT.lconstV X9.here hx rfl (1 : Int64) (hb hby at_122) (by decide) k) ?_
                refine own_f T9 (mkF m 124 #[.val (.long q1), .second, .val (.long q2), .second, .val (.long q3), .second, .val (.int p4), .val (.int zs), .val (.int ze), .val (.int (((p4.toUInt32 >>> ((2 : Int32) &&& 31).toUInt32).toInt32) &&& (3 : Int32))), .val (.long (own_mn q1 q2)), .second, .val (.long (own_mx q1 q2)), .second, .val (.ref b6), .val (.ref b9), .val (.long q3), .second, .unset, .unset, .unset] [(.long ((own_mx q1 q2) + (1 : Int64)))]) (fun t k => XS.ladd X9.here hx rfl (hb hby at_123) rfl k) ?_
                refine own_f T9 (mkF m 126 #[.val (.long q1), .second, .val (.long q2), .second, .val (.long q3), .second, .val (.int p4), .val (.int zs), .val (.int ze), .val (.int (((p4.toUInt32 >>> ((2 : Int32) &&& 31).toUInt32).toInt32) &&& (3 : Int32))), .val (.long (own_mn q1 q2)), .second, .val (.long (own_mx q1 q2)), .second, .val (.ref b6), .val (.ref b9), .val (.long ((own_mx q1 q2) + (1 : Int64))), .second, .unset, .unset, .unset] []) (fun t k => XS.lstore X9.here hx rfl (hb hby at_124) rfl (l' := #[.val (.long q1), .second, .val (.long q2), .second, .val (.long q3), .second, .val (.int p4), .val (.int zs), .val (.int ze), .val (.int (((p4.toUInt32 >>> ((2 : Int32) &&& 31).toUInt32).toInt32) &&& (3 : Int32))), .val (.long (own_mn q1 q2)), .second, .val (.long (own_mx q1 q2)), .second, .val (.ref b6), .val (.ref b9), .val (.long ((own_mx q1 q2) + (1 : Int64))), .second, .unset, .unset, .unset]) rfl k) ?_
                exact jn13 ((own_mx q1 q2) + (1 : Int64))
              · skip
                refine own_f T9 (mkF m 126 #[.val (.long q1), .second, .val (.long q2), .second, .val (.long q3), .second, .val (.int p4), .val (.int zs), .val (.int ze), .val (.int (((p4.toUInt32 >>> ((2 : Int32) &&& 31).toUInt32).toInt32) &&& (3 : Int32))), .val (.long (own_mn q1 q2)), .second, .val (.long (own_mx q1 q2)), .second, .val (.ref b6), .val (.ref b9), .val (.long q3), .second, .unset, .unset, .unset] []) (fun t k => XS.icmpYes X9.here hx rfl (pc0 := 117) (pc' := 126) rfl (hb hby at_117) rfl (XT.ii_ne_t hc34) (by decide) (by decide) k) ?_
                exact jn13 q3
        · skip
          refine own_f T6 (mkF m 71 #[.val (.long q1), .second, .val (.long q2), .second, .val (.long q3), .second, .val (.int p4), .val (.int zs), .val (.int ze), .val (.int (((p4.toUInt32 >>> ((2 : Int32) &&& 31).toUInt32).toInt32) &&& (3 : Int32))), .val (.long (own_mn q1 q2)), .second, .val (.long (own_mx q1 q2)), .second, .val (.ref b6), .unset, .unset, .unset, .unset, .unset, .unset] []) (fun t k => XS.ifNo X6.here hx rfl (hb hby at_68) rfl (XT.i0_eq_f hc8) k) ?_
          refine own_f T6 (mkF m 72 #[.val (.long q1), .second, .val (.long q2), .second, .val (.long q3), .second, .val (.int p4), .val (.int zs), .val (.int ze), .val (.int (((p4.toUInt32 >>> ((2 : Int32) &&& 31).toUInt32).toInt32) &&& (3 : Int32))), .val (.long (own_mn q1 q2)), .second, .val (.long (own_mx q1 q2)), .second, .val (.ref b6), .unset, .unset, .unset, .unset, .unset, .unset] [.null]) (fun t k => XS.aconstNull X6.here hx rfl (hb hby at_71) k) ?_
          refine own_f T6 (mkF m 80 #[.val (.long q1), .second, .val (.long q2), .second, .val (.long q3), .second, .val (.int p4), .val (.int zs), .val (.int ze), .val (.int (((p4.toUInt32 >>> ((2 : Int32) &&& 31).toUInt32).toInt32) &&& (3 : Int32))), .val (.long (own_mn q1 q2)), .second, .val (.long (own_mx q1 q2)), .second, .val (.ref b6), .unset, .unset, .unset, .unset, .unset, .unset] [.null]) (fun t k => XS.goto X6.here hx rfl (pc0 := 72) (pc' := 80) rfl (hb hby at_72) (by decide) (by decide) k) ?_
          refine own_f T6 (mkF m 82 #[.val (.long q1), .second, .val (.long q2), .second, .val (.long q3), .second, .val (.int p4), .val (.int zs), .val (.int ze), .val (.int (((p4.toUInt32 >>> ((2 : Int32) &&& 31).toUInt32).toInt32) &&& (3 : Int32))), .val (.long (own_mn q1 q2)), .second, .val (.long (own_mx q1 q2)), .second, .val (.ref b6), .val .null, .unset, .unset, .unset, .unset, .unset] []) (fun t k => XS.astore X6.here hx rfl (hb hby at_80) rfl rfl (l' := #[.val (.long q1), .second, .val (.long q2), .second, .val (.long q3), .second, .val (.int p4), .val (.int zs), .val (.int ze), .val (.int (((p4.toUInt32 >>> ((2 : Int32) &&& 31).toUInt32).toInt32) &&& (3 : Int32))), .val (.long (own_mn q1 q2)), .second, .val (.long (own_mx q1 q2)), .second, .val (.ref b6), .val .null, .unset, .unset, .unset, .unset, .unset]) rfl k) ?_
          refine own_f T6 (mkF m 84 #[.val (.long q1), .second, .val (.long q2), .second, .val (.long q3), .second, .val (.int p4), .val (.int zs), .val (.int ze), .val (.int (((p4.toUInt32 >>> ((2 : Int32) &&& 31).toUInt32).toInt32) &&& (3 : Int32))), .val (.long (own_mn q1 q2)), .second, .val (.long (own_mx q1 q2)), .second, .val (.ref b6), .val .null, .unset, .unset, .unset, .unset, .unset] [(.long q3)]) (fun t k => XS.lload X6.here hx rfl (hb hby at_82) rfl k) ?_
          refine own_f T6 (mkF m 86 #[.val (.long q1), .second, .val (.long q2), .second, .val (.long q3), .second, .val (.int p4), .val (.int zs), .val (.int ze), .val (.int (((p4.toUInt32 >>> ((2 : Int32) &&& 31).toUInt32).toInt32) &&& (3 : Int32))), .val (.long (own_mn q1 q2)), .second, .val (.long (own_mx q1 q2)), .second, .val (.ref b6), .val .null, .val (.long q3), .second, .unset, .unset, .unset] []) (fun t k => XS.lstore X6.here hx rfl (hb hby at_84) rfl (l' := #[.val (.long q1), .second, .val (.long q2), .second, .val (.long q3), .second, .val (.int p4), .val (.int zs), .val (.int ze), .val (.int (((p4.toUInt32 >>> ((2 : Int32) &&& 31).toUInt32).toInt32) &&& (3 : Int32))), .val (.long (own_mn q1 q2)), .second, .val (.long (own_mx q1 q2)), .second, .val (.ref b6), .val .null, .val (.long q3), .second, .unset, .unset, .unset]) rfl k) ?_
          refine own_f T6 (mkF m 88 #[.val (.long q1), .second, .val (.long q2), .second, .val (.long q3), .second, .val (.int p4), .val (.int zs), .val (.int ze), .val (.int (((p4.toUInt32 >>> ((2 : Int32) &&& 31).toUInt32).toInt32) &&& (3 : Int32))), .val (.long (own_mn q1 q2)), .second, .val (.long (own_mx q1 q2)), .second, .val (.ref b6), .val .null, .val (.long q3), .second, .unset, .unset, .unset] [(.int (((p4.toUInt32 >>> ((2 : Int32) &&& 31).toUInt32).toInt32) &&& (3 : Int32)))]) (fun t k => XS.iload X6.here hx rfl (hb hby at_86) rfl k) ?_
          refine own_f T6 (mkF m 89 #[.val (.long q1), .second, .val (.long q2), .second, .val (.long q3), .second, .val (.int p4), .val (.int zs), .val (.int ze), .val (.int (((p4.toUInt32 >>> ((2 : Int32) &&& 31).toUInt32).toInt32) &&& (3 : Int32))), .val (.long (own_mn q1 q2)), .second, .val (.long (own_mx q1 q2)), .second, .val (.ref b6), .val .null, .val (.long q3), .second, .unset, .unset, .unset] [(.int (1 : Int32)), (.int (((p4.toUInt32 >>> ((2 : Int32) &&& 31).toUInt32).toInt32) &&& (3 : Int32)))]) (fun t k => XT.iconstV X6.here hx rfl (1 : Int32) (hb hby at_88) (by decide) k) ?_
          have jn35 : ∀ (tt : Int64), own_R p.tables e below (own_P s (Q0 Z q1 q2 q3 p4 h0 n0) room_1.cells room_1.slots) (T6.setTop (mkF m 126 #[.val (.long q1), .second, .val (.long q2), .second, .val (.long q3), .second, .val (.int p4), .val (.int zs), .val (.int ze), .val (.int (((p4.toUInt32 >>> ((2 : Int32) &&& 31).toUInt32).toInt32) &&& (3 : Int32))), .val (.long (own_mn q1 q2)), .second, .val (.long (own_mx q1 q2)), .second, .val (.ref b6), .val .null, .val (.long tt), .second, .unset, .unset, .unset] [])) := by
            intro tt
            obtain ⟨T36, h36, X36, e36, E36, A36, D36, U36, st36⟩ := newO X6 hx hZ hown (own_w hw 15 rfl) (own_w hw 16 rfl) (own_w hw 17 rfl) e6 (g := (mkF m 126 #[.val (.long q1), .second, .val (.long q2), .second, .val (.long q3), .second, .val (.int p4), .val (.int zs), .val (.int ze), .val (.int (((p4.toUInt32 >>> ((2 : Int32) &&& 31).toUInt32).toInt32) &&& (3 : Int32))), .val (.long (own_mn q1 q2)), .second, .val (.long (own_mx q1 q2)), .second, .val (.ref b6), .val .null, .val (.long tt), .second, .unset, .unset, .unset] [])) rfl (hb hby at_126) (by decide) (by decide)
            obtain ⟨b36, g36⟩ : ∃ z, z = h6.size := ⟨_, rfl⟩
            rw [← g36] at A36 D36 st36
            have ne36_b6 : b6 ≠ b36 := by rw [g36]; exact Nat.ne_of_lt G6_0.lt
            have ge36 : n0 ≤ b36 := by rw [g36]; exact Zs6
            have Zs36 : n0 ≤ h36.size := Nat.le_trans Zs6 E36.1
            have F_37 := F_7.ext E36
            have F_38 := G6_0.ext E36
            have F_39 := G6_1.ext E36
            have F_40 : Fld Z h36 b36 "com/example/reading_buckets/readingbuckets/TimeRange" "from" "Ljava/lang/Long;" .null := D36 (Or.inr (own_w hw 30 rfl)) (ty := (.object "java/lang/Long")) (by decide)
            have F_41 : Fld Z h36 b36 "com/example/reading_buckets/readingbuckets/TimeRange" "to" "Ljava/lang/Long;" .null := D36 (Or.inr (own_w hw 32 rfl)) (ty := (.object "java/lang/Long")) (by decide)
            refine own_f T36 (mkF m 129 #[.val (.long q1), .second, .val (.long q2), .second, .val (.long q3), .second, .val (.int p4), .val (.int zs), .val (.int ze), .val (.int (((p4.toUInt32 >>> ((2 : Int32) &&& 31).toUInt32).toInt32) &&& (3 : Int32))), .val (.long (own_mn q1 q2)), .second, .val (.long (own_mx q1 q2)), .second, .val (.ref b6), .val .null, .val (.long tt), .second, .unset, .unset, .unset] [(.ref b36)]) st36 ?_
            refine own_f T36 (mkF m 130 #[.val (.long q1), .second, .val (.long q2), .second, .val (.long q3), .second, .val (.int p4), .val (.int zs), .val (.int ze), .val (.int (((p4.toUInt32 >>> ((2 : Int32) &&& 31).toUInt32).toInt32) &&& (3 : Int32))), .val (.long (own_mn q1 q2)), .second, .val (.long (own_mx q1 q2)), .second, .val (.ref b6), .val .null, .val (.long tt), .second, .unset, .unset, .unset] [(.ref b36), (.ref b36)]) (fun t k => XS.dup X36.here hx rfl (hb hby at_129) rfl rfl k) ?_
            refine own_f T36 (mkF m 132 #[.val (.long q1), .second, .val (.long q2), .second, .val (.long q3), .second, .val (.int p4), .val (.int zs), .val (.int ze), .val (.int (((p4.toUInt32 >>> ((2 : Int32) &&& 31).toUInt32).toInt32) &&& (3 : Int32))), .val (.long (own_mn q1 q2)), .second, .val (.long (own_mx q1 q2)), .second, .val (.ref b6), .val .null, .val (.long tt), .second, .unset, .unset, .unset] [(.ref b6), (.ref b36), (.ref b36)]) (fun t k => XS.aload X36.here hx rfl (hb hby at_130) rfl rfl k) ?_
            refine own_f T36 (mkF m 134 #[.val (.long q1), .second, .val (.long q2), .second, .val (.long q3), .second, .val (.int p4), .val (.int zs), .val (.int ze), .val (.int (((p4.toUInt32 >>> ((2 : Int32) &&& 31).toUInt32).toInt32) &&& (3 : Int32))), .val (.long (own_mn q1 q2)), .second, .val (.long (own_mx q1 q2)), .second, .val (.ref b6), .val .null, .val (.long tt), .second, .unset, .unset, .unset] [.null, (.ref b6), (.ref b36), (.ref b36)]) (fun t k => XS.aload X36.here hx rfl (hb hby at_132) rfl rfl k) ?_
            obtain ⟨_, _, ⟨T42, Lq42, kq_42, nq_42⟩, -, X42, ⟨Lc42, hQ42, lq42, yq42, zq42⟩, st42⟩ := X36.specialBack hx (y := (⟨"com/example/reading_buckets/readingbuckets/TimeRange", "<init>", "(Ljava/lang/Long;Ljava/lang/Long;)V"⟩ : MethodName)) rfl hown (mvT hZ (own_w hw 18 rfl)) (mvT hZ (own_w hw 19 rfl)) (mvT hZ (own_w hw 20 rfl)) (by decide) (backOf (W := 1) (rm910 l Z a0 hw [] b36 b6 _ _ h36 n0 Zs36 A36 F_40 F_41 ge36) hZ (own_w hw 20 rfl) (own_w hw 17 rfl) (by decide) (by decide)) (g := (mkF m 134 #[.val (.long q1), .second, .val (.long q2), .second, .val (.long q3), .second, .val (.int p4), .val (.int zs), .val (.int ze), .val (.int (((p4.toUInt32 >>> ((2 : Int32) &&& 31).toUInt32).toInt32) &&& (3 : Int32))), .val (.long (own_mn q1 q2)), .second, .val (.long (own_mx q1 q2)), .second, .val (.ref b6), .val .null, .val (.long tt), .second, .unset, .unset, .unset] [.null, (.ref b6), (.ref b36), (.ref b36)])) rfl (by rw [hml]; rfl) (Steps.refl _) (a := b36) (argsL := [(.ref b6), .null]) (rest := [(.ref b36)]) (lenOf pd__Ljava_lang_Long_Ljava_lang_Long_V rfl) rfl (by show 2 * 0 + _ ≤ _; exact Nat.le_of_eq rfl) (hb hby at_134) (fun _ _ => ⟨rfl, e36, (by decide : 0 + 0 + 0 + 1 + 1 + 0 ≤ _), (by decide : 0 + 0 + 0 + 1 + 2 + 0 ≤ _)⟩)
            dsimp only [Pt.U, Pt.locs, Pt.cells, Pt.slots] at X42 lq42 yq42 zq42 st42 hQ42
            subst lq42 yq42 zq42
            obtain ⟨h42, e42⟩ : ∃ z, T42.heap = z := ⟨_, rfl⟩
            rw [e42] at hQ42
            unfold Q910 at hQ42
            obtain ⟨rfl, Nq42, qh42, G42_0, G42_1⟩ := hQ42
            have N42 := Fr.app N6 Nq42
            have Zs42 : n0 ≤ h42.size := Nat.le_trans Zs36 qh42.1
            have F_43 := F_37.keep qh42 (allS ge36 all0)
            have F_44 := F_38.keep qh42
            have F_45 := F_39.keep qh42 (ninS ne36_b6 nin0)
            refine own_g T42 (mkF m 137 #[.val (.long q1), .second, .val (.long q2), .second, .val (.long q3), .second, .val (.int p4), .val (.int zs), .val (.int ze), .val (.int (((p4.toUInt32 >>> ((2 : Int32) &&& 31).toUInt32).toInt32) &&& (3 : Int32))), .val (.long (own_mn q1 q2)), .second, .val (.long (own_mx q1 q2)), .second, .val (.ref b6), .val .null, .val (.long tt), .second, .unset, .unset, .unset] [(.ref b36)]) st42 ?_
            refine own_f T42 (mkF m 139 #[.val (.long q1), .second, .val (.long q2), .second, .val (.long q3), .second, .val (.int p4), .val (.int zs), .val (.int ze), .val (.int (((p4.toUInt32 >>> ((2 : Int32) &&& 31).toUInt32).toInt32) &&& (3 : Int32))), .val (.long (own_mn q1 q2)), .second, .val (.long (own_mx q1 q2)), .second, .val (.ref b6), .val .null, .val (.long tt), .second, .val (.ref b36), .unset, .unset] []) (fun t k => XS.astore X42.here hx rfl (hb hby at_137) rfl rfl (l' := #[.val (.long q1), .second, .val (.long q2), .second, .val (.long q3), .second, .val (.int p4), .val (.int zs), .val (.int ze), .val (.int (((p4.toUInt32 >>> ((2 : Int32) &&& 31).toUInt32).toInt32) &&& (3 : Int32))), .val (.long (own_mn q1 q2)), .second, .val (.long (own_mx q1 q2)), .second, .val (.ref b6), .val .null, .val (.long tt), .second, .val (.ref b36), .unset, .unset]) rfl k) ?_
            refine own_f T42 (mkF m 141 #[.val (.long q1), .second, .val (.long q2), .second, .val (.long q3), .second, .val (.int p4), .val (.int zs), .val (.int ze), .val (.int (((p4.toUInt32 >>> ((2 : Int32) &&& 31).toUInt32).toInt32) &&& (3 : Int32))), .val (.long (own_mn q1 q2)), .second, .val (.long (own_mx q1 q2)), .second, .val (.ref b6), .val .null, .val (.long tt), .second, .val (.ref b36), .unset, .unset] [(.ref b36)]) (fun t k => XS.aload X42.here hx rfl (hb hby at_139) rfl rfl k) ?_
            refine own_f T42 (mkF m 143 #[.val (.long q1), .second, .val (.long q2), .second, .val (.long q3), .second, .val (.int p4), .val (.int zs), .val (.int ze), .val (.int (((p4.toUInt32 >>> ((2 : Int32) &&& 31).toUInt32).toInt32) &&& (3 : Int32))), .val (.long (own_mn q1 q2)), .second, .val (.long (own_mx q1 q2)), .second, .val (.ref b6), .val .null, .val (.long tt), .second, .val (.ref b36), .unset, .unset] [(.long tt), (.ref b36)]) (fun t k => XS.lload X42.here hx rfl (hb hby at_141) rfl k) ?_
            obtain ⟨cq46, kq46, qa46, qb46, qc46⟩ := isOf hZ e42 G42_0
            obtain ⟨_, _, ⟨T46, Lq46, kq_46, nq_46⟩, -, X46, ⟨Lc46, hQ46, lq46, yq46, zq46⟩, st46⟩ := X42.virtualBack hx (y := (⟨"com/example/reading_buckets/readingbuckets/TimeRange", "endsAtOrBefore", "(J)Z"⟩ : MethodName)) (z := (⟨"com/example/reading_buckets/readingbuckets/TimeRange", "endsAtOrBefore", "(J)Z"⟩ : MethodName)) hown (mvT hZ (own_w hw 33 rfl)) (mvT hZ (own_w hw 34 rfl)) (notFace_of_selects (args := #[]) (mvT hZ (own_w hw 36 rfl))) (mvT hZ (own_w hw 36 rfl)) (mvT hZ (own_w hw 35 rfl)) (by decide) (backOf (W := 0) (rma0 l Z a0 hw [] b36 tt h42 n0 Zs42 G42_1) hZ (own_w hw 37 rfl) (own_w hw 17 rfl) (by decide) (by decide)) qa46 qc46 (g := (mkF m 143 #[.val (.long q1), .second, .val (.long q2), .second, .val (.long q3), .second, .val (.int p4), .val (.int zs), .val (.int ze), .val (.int (((p4.toUInt32 >>> ((2 : Int32) &&& 31).toUInt32).toInt32) &&& (3 : Int32))), .val (.long (own_mn q1 q2)), .second, .val (.long (own_mx q1 q2)), .second, .val (.ref b6), .val .null, .val (.long tt), .second, .val (.ref b36), .unset, .unset] [(.long tt), (.ref b36)])) rfl (by rw [hml]; rfl) (Steps.refl _) (argsL := [(.long tt)]) (rest := []) (lenOf pd__J_Z rfl) rfl (by show 2 * 0 + _ ≤ _; exact Nat.le_of_eq rfl) (hb hby at_143) (fun _ _ => ⟨rfl, e42, (by decide : 0 + 0 + 0 + 1 + 1 + 0 + 0 ≤ _), (by decide : 0 + 0 + 0 + 1 + 2 + 0 + 0 ≤ _)⟩)
            dsimp only [Pt.U, Pt.locs, Pt.cells, Pt.slots] at X46 lq46 yq46 zq46 st46 hQ46
            subst lq46 yq46 zq46
            obtain ⟨h46, e46⟩ : ∃ z, T46.heap = z := ⟨_, rfl⟩
            rw [e46] at hQ46
            unfold Qa0 at hQ46
            obtain ⟨rfl, Nq46, qh46⟩ := hQ46
            have N46 := Fr.app N42 Nq46
            rw [qh46] at e46
            refine own_g T46 (mkF m 146 #[.val (.long q1), .second, .val (.long q2), .second, .val (.long q3), .second, .val (.int p4), .val (.int zs), .val (.int ze), .val (.int (((p4.toUInt32 >>> ((2 : Int32) &&& 31).toUInt32).toInt32) &&& (3 : Int32))), .val (.long (own_mn q1 q2)), .second, .val (.long (own_mx q1 q2)), .second, .val (.ref b6), .val .null, .val (.long tt), .second, .val (.ref b36), .unset, .unset] [(.int (0 : Int32))]) st46 ?_
            refine own_f T46 (mkF m 148 #[.val (.long q1), .second, .val (.long q2), .second, .val (.long q3), .second, .val (.int p4), .val (.int zs), .val (.int ze), .val (.int (((p4.toUInt32 >>> ((2 : Int32) &&& 31).toUInt32).toInt32) &&& (3 : Int32))), .val (.long (own_mn q1 q2)), .second, .val (.long (own_mx q1 q2)), .second, .val (.ref b6), .val .null, .val (.long tt), .second, .val (.ref b36), .val (.int (0 : Int32)), .unset] []) (fun t k => XS.istore X46.here hx rfl (hb hby at_146) rfl (l' := #[.val (.long q1), .second, .val (.long q2), .second, .val (.long q3), .second, .val (.int p4), .val (.int zs), .val (.int ze), .val (.int (((p4.toUInt32 >>> ((2 : Int32) &&& 31).toUInt32).toInt32) &&& (3 : Int32))), .val (.long (own_mn q1 q2)), .second, .val (.long (own_mx q1 q2)), .second, .val (.ref b6), .val .null, .val (.long tt), .second, .val (.ref b36), .val (.int (0 : Int32)), .unset]) rfl k) ?_
            refine own_f T46 (mkF m 150 #[.val (.long q1), .second, .val (.long q2), .second, .val (.long q3), .second, .val (.int p4), .val (.int zs), .val (.int ze), .val (.int (((p4.toUInt32 >>> ((2 : Int32) &&& 31).toUInt32).toInt32) &&& (3 : Int32))), .val (.long (own_mn q1 q2)), .second, .val (.long (own_mx q1 q2)), .second, .val (.ref b6), .val .null, .val (.long tt), .second, .val (.ref b36), .val (.int (0 : Int32)), .unset] [(.int ze)]) (fun t k => XS.iload X46.here hx rfl (hb hby at_148) rfl k) ?_
            refine own_f T46 (mkF m 153 #[.val (.long q1), .second, .val (.long q2), .second, .val (.long q3), .second, .val (.int p4), .val (.int zs), .val (.int ze), .val (.int (((p4.toUInt32 >>> ((2 : Int32) &&& 31).toUInt32).toInt32) &&& (3 : Int32))), .val (.long (own_mn q1 q2)), .second, .val (.long (own_mx q1 q2)), .second, .val (.ref b6), .val .null, .val (.long tt), .second, .val (.ref b36), .val (.int (0 : Int32)), .unset] []) (fun t k => XS.ifNo X46.here hx rfl (hb hby at_150) rfl (XT.i0_eq_f hc8) k) ?_
            refine own_f T46 (mkF m 154 #[.val (.long q1), .second, .val (.long q2), .second, .val (.long q3), .second, .val (.int p4), .val (.int zs), .val (.int ze), .val (.int (((p4.toUInt32 >>> ((2 : Int32) &&& 31).toUInt32).toInt32) &&& (3 : Int32))), .val (.long (own_mn q1 q2)), .second, .val (.long (own_mx q1 q2)), .second, .val (.ref b6), .val .null, .val (.long tt), .second, .val (.ref b36), .val (.int (0 : Int32)), .unset] [(.int (0 : Int32))]) (fun t k => XT.iconstV X46.here hx rfl (0 : Int32) (hb hby at_153) (by decide) k) ?_
            refine own_f T46 (mkF m 156 #[.val (.long q1), .second, .val (.long q2), .second, .val (.long q3), .second, .val (.int p4), .val (.int zs), .val (.int ze), .val (.int (((p4.toUInt32 >>> ((2 : Int32) &&& 31).toUInt32).toInt32) &&& (3 : Int32))), .val (.long (own_mn q1 q2)), .second, .val (.long (own_mx q1 q2)), .second, .val (.ref b6), .val .null, .val (.long tt), .second, .val (.ref b36), .val (.int (0 : Int32)), .val (.int (0 : Int32))] []) (fun t k => XS.istore X46.here hx rfl (hb hby at_154) rfl (l' := #[.val (.long q1), .second, .val (.long q2), .second, .val (.long q3), .second, .val (.int p4), .val (.int zs), .val (.int ze), .val (.int (((p4.toUInt32 >>> ((2 : Int32) &&& 31).toUInt32).toInt32) &&& (3 : Int32))), .val (.long (own_mn q1 q2)), .second, .val (.long (own_mx q1 q2)), .second, .val (.ref b6), .val .null, .val (.long tt), .second, .val (.ref b36), .val (.int (0 : Int32)), .val (.int (0 : Int32))]) rfl k) ?_
            refine own_f T46 (mkF m 174 #[.val (.long q1), .second, .val (.long q2), .second, .val (.long q3), .second, .val (.int p4), .val (.int zs), .val (.int ze), .val (.int (((p4.toUInt32 >>> ((2 : Int32) &&& 31).toUInt32).toInt32) &&& (3 : Int32))), .val (.long (own_mn q1 q2)), .second, .val (.long (own_mx q1 q2)), .second, .val (.ref b6), .val .null, .val (.long tt), .second, .val (.ref b36), .val (.int (0 : Int32)), .val (.int (0 : Int32))] []) (fun t k => XS.goto X46.here hx rfl (pc0 := 156) (pc' := 174) rfl (hb hby at_156) (by decide) (by decide) k) ?_
            refine own_f T46 (mkF m 176 #[.val (.long q1), .second, .val (.long q2), .second, .val (.long q3), .second, .val (.int p4), .val (.int zs), .val (.int ze), .val (.int (((p4.toUInt32 >>> ((2 : Int32) &&& 31).toUInt32).toInt32) &&& (3 : Int32))), .val (.long (own_mn q1 q2)), .second, .val (.long (own_mx q1 q2)), .second, .val (.ref b6), .val .null, .val (.long tt), .second, .val (.ref b36), .val (.int (0 : Int32)), .val (.int (0 : Int32))] [(.int (0 : Int32))]) (fun t k => XS.iload X46.here hx rfl (hb hby at_174) rfl k) ?_
            refine own_f T46 (mkF m 178 #[.val (.long q1), .second, .val (.long q2), .second, .val (.long q3), .second, .val (.int p4), .val (.int zs), .val (.int ze), .val (.int (((p4.toUInt32 >>> ((2 : Int32) &&& 31).toUInt32).toInt32) &&& (3 : Int32))), .val (.long (own_mn q1 q2)), .second, .val (.long (own_mx q1 q2)), .second, .val (.ref b6), .val .null, .val (.long tt), .second, .val (.ref b36), .val (.int (0 : Int32)), .val (.int (0 : Int32))] [(.int (0 : Int32)), (.int (0 : Int32))]) (fun t k => XS.iload X46.here hx rfl (hb hby at_176) rfl k) ?_
            refine own_f T46 (mkF m 181 #[.val (.long q1), .second, .val (.long q2), .second, .val (.long q3), .second, .val (.int p4), .val (.int zs), .val (.int ze), .val (.int (((p4.toUInt32 >>> ((2 : Int32) &&& 31).toUInt32).toInt32) &&& (3 : Int32))), .val (.long (own_mn q1 q2)), .second, .val (.long (own_mx q1 q2)), .second, .val (.ref b6), .val .null, .val (.long tt), .second, .val (.ref b36), .val (.int (0 : Int32)), .val (.int (0 : Int32))] []) (fun t k => XS.icmpNo X46.here hx rfl (hb hby at_178) rfl (XT.ii_ne_f (by decide)) k) ?_
            refine own_f T46 (mkF m 182 #[.val (.long q1), .second, .val (.long q2), .second, .val (.long q3), .second, .val (.int p4), .val (.int zs), .val (.int ze), .val (.int (((p4.toUInt32 >>> ((2 : Int32) &&& 31).toUInt32).toInt32) &&& (3 : Int32))), .val (.long (own_mn q1 q2)), .second, .val (.long (own_mx q1 q2)), .second, .val (.ref b6), .val .null, .val (.long tt), .second, .val (.ref b36), .val (.int (0 : Int32)), .val (.int (0 : Int32))] [(.int (1 : Int32))]) (fun t k => XT.iconstV X46.here hx rfl (1 : Int32) (hb hby at_181) (by decide) k) ?_
            refine own_f T46 (mkF m 186 #[.val (.long q1), .second, .val (.long q2), .second, .val (.long q3), .second, .val (.int p4), .val (.int zs), .val (.int ze), .val (.int (((p4.toUInt32 >>> ((2 : Int32) &&& 31).toUInt32).toInt32) &&& (3 : Int32))), .val (.long (own_mn q1 q2)), .second, .val (.long (own_mx q1 q2)), .second, .val (.ref b6), .val .null, .val (.long tt), .second, .val (.ref b36), .val (.int (0 : Int32)), .val (.int (0 : Int32))] [(.int (1 : Int32))]) (fun t k => XS.goto X46.here hx rfl (pc0 := 182) (pc' := 186) rfl (hb hby at_182) (by decide) (by decide) k) ?_
            obtain ⟨fs, hr, hrun, hended, hW, hsame⟩ := X46.leave (v := some (.int (1 : Int32))) (fun h => by rw [Bd.returns] at h; cases h)
            refine ⟨_, _, retN X46 hx (t := .boolean) Bd.returns (by simp) (hb hby at_186) hr, hrun, hended, _, _, rfl, ?_, ⟨_, rfl⟩, hW, hsame.mono (by decide) (by decide)⟩
            show Q0 Z q1 q2 q3 p4 h0 n0 _ T46.heap _
            rw [e46]
            exact ⟨rfl, N46⟩
          by_cases hc47 : (((p4.toUInt32 >>> ((2 : Int32) &&& 31).toUInt32).toInt32) &&& (3 : Int32)) = (1 : Int32)
          · skip
            refine own_f T6 (mkF m 92 #[.val (.long q1), .second, .val (.long q2), .second, .val (.long q3), .second, .val (.int p4), .val (.int zs), .val (.int ze), .val (.int (((p4.toUInt32 >>> ((2 : Int32) &&& 31).toUInt32).toInt32) &&& (3 : Int32))), .val (.long (own_mn q1 q2)), .second, .val (.long (own_mx q1 q2)), .second, .val (.ref b6), .val .null, .val (.long q3), .second, .unset, .unset, .unset] []) (fun t k => XS.icmpNo X6.here hx rfl (hb hby at_89) rfl (XT.ii_ne_f hc47) k) ?_
            refine own_f T6 (mkF m 94 #[.val (.long q1), .second, .val (.long q2), .second, .val (.long q3), .second, .val (.int p4), .val (.int zs), .val (.int ze), .val (.int (((p4.toUInt32 >>> ((2 : Int32) &&& 31).toUInt32).toInt32) &&& (3 : Int32))), .val (.long (own_mn q1 q2)), .second, .val (.long (own_mx q1 q2)), .second, .val (.ref b6), .val .null, .val (.long q3), .second, .unset, .unset, .unset] [(.long (own_mx q1 q2))]) (fun t k => XS.lload X6.here hx rfl (hb hby at_92) rfl k) ?_
            refine own_f T6 (mkF m 95 #[.val (.long q1), .second, .val (.long q2), .second, .val (.long q3), .second, .val (.int p4), .val (.int zs), .val (.int ze), .val (.int (((p4.toUInt32 >>> ((2 : Int32) &&& 31).toUInt32).toInt32) &&& (3 : Int32))), .val (.long (own_mn q1 q2)), .second, .val (.long (own_mx q1 q2)), .second, .val (.ref b6), .val .null, .val (.long q3), .second, .unset, .unset, .unset] [(.long (1 : Int64)), (.long (own_mx q1 q2))]) (fun t k => XT.lconstV X6.here hx rfl (1 : Int64) (hb hby at_94) (by decide) k) ?_
            refine own_f T6 (mkF m 96 #[.val (.long q1), .second, .val (.long q2), .second, .val (.long q3), .second, .val (.int p4), .val (.int zs), .val (.int ze), .val (.int (((p4.toUInt32 >>> ((2 : Int32) &&& 31).toUInt32).toInt32) &&& (3 : Int32))), .val (.long (own_mn q1 q2)), .second, .val (.long (own_mx q1 q2)), .second, .val (.ref b6), .val .null, .val (.long q3), .second, .unset, .unset, .unset] [(.long ((own_mx q1 q2) - (1 : Int64)))]) (fun t k => XS.lsub X6.here hx rfl (hb hby at_95) rfl k) ?_
            refine own_f T6 (mkF m 98 #[.val (.long q1), .second, .val (.long q2), .second, .val (.long q3), .second, .val (.int p4), .val (.int zs), .val (.int ze), .val (.int (((p4.toUInt32 >>> ((2 : Int32) &&& 31).toUInt32).toInt32) &&& (3 : Int32))), .val (.long (own_mn q1 q2)), .second, .val (.long (own_mx q1 q2)), .second, .val (.ref b6), .val .null, .val (.long ((own_mx q1 q2) - (1 : Int64))), .second, .unset, .unset, .unset] []) (fun t k => XS.lstore X6.here hx rfl (hb hby at_96) rfl (l' := #[.val (.long q1), .second, .val (.long q2), .second, .val (.long q3), .second, .val (.int p4), .val (.int zs), .val (.int ze), .val (.int (((p4.toUInt32 >>> ((2 : Int32) &&& 31).toUInt32).toInt32) &&& (3 : Int32))), .val (.long (own_mn q1 q2)), .second, .val (.long (own_mx q1 q2)), .second, .val (.ref b6), .val .null, .val (.long ((own_mx q1 q2) - (1 : Int64))), .second, .unset, .unset, .unset]) rfl k) ?_
            refine own_f T6 (mkF m 126 #[.val (.long q1), .second, .val (.long q2), .second, .val (.long q3), .second, .val (.int p4), .val (.int zs), .val (.int ze), .val (.int (((p4.toUInt32 >>> ((2 : Int32) &&& 31).toUInt32).toInt32) &&& (3 : Int32))), .val (.long (own_mn q1 q2)), .second, .val (.long (own_mx q1 q2)), .second, .val (.ref b6), .val .null, .val (.long ((own_mx q1 q2) - (1 : Int64))), .second, .unset, .unset, .unset] []) (fun t k => XS.goto X6.here hx rfl (pc0 := 98) (pc' := 126) rfl (hb hby at_98) (by decide) (by decide) k) ?_
            exact jn35 ((own_mx q1 q2) - (1 : Int64))
          · skip
            refine own_f T6 (mkF m 101 #[.val (.long q1), .second, .val (.long q2), .second, .val (.long q3), .second, .val (.int p4), .val (.int zs), .val (.int ze), .val (.int (((p4.toUInt32 >>> ((2 : Int32) &&& 31).toUInt32).toInt32) &&& (3 : Int32))), .val (.long (own_mn q1 q2)), .second, .val (.long (own_mx q1 q2)), .second, .val (.ref b6), .val .null, .val (.long q3), .second, .unset, .unset, .unset] []) (fun t k => XS.icmpYes X6.here hx rfl (pc0 := 89) (pc' := 101) rfl (hb hby at_89) rfl (XT.ii_ne_t hc47) (by decide) (by decide) k) ?_
            refine own_f T6 (mkF m 103 #[.val (.long q1), .second, .val (.long q2), .second, .val (.long q3), .second, .val (.int p4), .val (.int zs), .val (.int ze), .val (.int (((p4.toUInt32 >>> ((2 : Int32) &&& 31).toUInt32).toInt32) &&& (3 : Int32))), .val (.long (own_mn q1 q2)), .second, .val (.long (own_mx q1 q2)), .second, .val (.ref b6), .val .null, .val (.long q3), .second, .unset, .unset, .unset] [(.int (((p4.toUInt32 >>> ((2 : Int32) &&& 31).toUInt32).toInt32) &&& (3 : Int32)))]) (fun t k => XS.iload X6.here hx rfl (hb hby at_101) rfl k) ?_
            refine own_f T6 (mkF m 104 #[.val (.long q1), .second, .val (.long q2), .second, .val (.long q3), .second, .val (.int p4), .val (.int zs), .val (.int ze), .val (.int (((p4.toUInt32 >>> ((2 : Int32) &&& 31).toUInt32).toInt32) &&& (3 : Int32))), .val (.long (own_mn q1 q2)), .second, .val (.long (own_mx q1 q2)), .second, .val (.ref b6), .val .null, .val (.long q3), .second, .unset, .unset, .unset] [(.int (2 : Int32)), (.int (((p4.toUInt32 >>> ((2 : Int32) &&& 31).toUInt32).toInt32) &&& (3 : Int32)))]) (fun t k => XT.iconstV X6.here hx rfl (2 : Int32) (hb hby at_103) (by decide) k) ?_
            by_cases hc48 : (((p4.toUInt32 >>> ((2 : Int32) &&& 31).toUInt32).toInt32) &&& (3 : Int32)) = (2 : Int32)
            · skip
              refine own_f T6 (mkF m 107 #[.val (.long q1), .second, .val (.long q2), .second, .val (.long q3), .second, .val (.int p4), .val (.int zs), .val (.int ze), .val (.int (((p4.toUInt32 >>> ((2 : Int32) &&& 31).toUInt32).toInt32) &&& (3 : Int32))), .val (.long (own_mn q1 q2)), .second, .val (.long (own_mx q1 q2)), .second, .val (.ref b6), .val .null, .val (.long q3), .second, .unset, .unset, .unset] []) (fun t k => XS.icmpNo X6.here hx rfl (hb hby at_104) rfl (XT.ii_ne_f hc48) k) ?_
              refine own_f T6 (mkF m 109 #[.val (.long q1), .second, .val (.long q2), .second, .val (.long q3), .second, .val (.int p4), .val (.int zs), .val (.int ze), .val (.int (((p4.toUInt32 >>> ((2 : Int32) &&& 31).toUInt32).toInt32) &&& (3 : Int32))), .val (.long (own_mn q1 q2)), .second, .val (.long (own_mx q1 q2)), .second, .val (.ref b6), .val .null, .val (.long q3), .second, .unset, .unset, .unset] [(.long (own_mx q1 q2))]) (fun t k => XS.lload X6.here hx rfl (hb hby at_107) rfl k) ?_
              refine own_f T6 (mkF m 111 #[.val (.long q1), .second, .val (.long q2), .second, .val (.long q3), .second, .val (.int p4), .val (.int zs), .val (.int ze), .val (.int (((p4.toUInt32 >>> ((2 : Int32) &&& 31).toUInt32).toInt32) &&& (3 : Int32))), .val (.long (own_mn q1 q2)), .second, .val (.long (own_mx q1 q2)), .second, .val (.ref b6), .val .null, .val (.long (own_mx q1 q2)), .second, .unset, .unset, .unset] []) (fun t k => XS.lstore X6.here hx rfl (hb hby at_109) rfl (l' := #[.val (.long q1), .second, .val (.long q2), .second, .val (.long q3), .second, .val (.int p4), .val (.int zs), .val (.int ze), .val (.int (((p4.toUInt32 >>> ((2 : Int32) &&& 31).toUInt32).toInt32) &&& (3 : Int32))), .val (.long (own_mn q1 q2)), .second, .val (.long (own_mx q1 q2)), .second, .val (.ref b6), .val .null, .val (.long (own_mx q1 q2)), .second, .unset, .unset, .unset]) rfl k) ?_
              refine own_f T6 (mkF m 126 #[.val (.long q1), .second, .val (.long q2), .second, .val (.long q3), .second, .val (.int p4), .val (.int zs), .val (.int ze), .val (.int (((p4.toUInt32 >>> ((2 : Int32) &&& 31).toUInt32).toInt32) &&& (3 : Int32))), .val (.long (own_mn q1 q2)), .second, .val (.long (own_mx q1 q2)), .second, .val (.ref b6), .val .null, .val (.long (own_mx q1 q2)), .second, .unset, .unset, .unset] []) (fun t k => XS.goto X6.here hx rfl (pc0 := 111) (pc' := 126) rfl (hb hby at_111) (by decide) (by decide) k) ?_
              exact jn35 (own_mx q1 q2)
            · skip
              refine own_f T6 (mkF m 114 #[.val (.long q1), .second, .val (.long q2), .second, .val (.long q3), .second, .val (.int p4), .val (.int zs), .val (.int ze), .val (.int (((p4.toUInt32 >>> ((2 : Int32) &&& 31).toUInt32).toInt32) &&& (3 : Int32))), .val (.long (own_mn q1 q2)), .second, .val (.long (own_mx q1 q2)), .second, .val (.ref b6), .val .null, .val (.long q3), .second, .unset, .unset, .unset] []) (fun t k => XS.icmpYes X6.here hx rfl (pc0 := 104) (pc' := 114) rfl (hb hby at_104) rfl (XT.ii_ne_t hc48) (by decide) (by decide) k) ?_
              refine own_f T6 (mkF m 116 #[.val (.long q1), .second, .val (.long q2), .second, .val (.long q3), .second, .val (.int p4), .val (.int zs), .val (.int ze), .val (.int (((p4.toUInt32 >>> ((2 : Int32) &&& 31).toUInt32).toInt32) &&& (3 : Int32))), .val (.long (own_mn q1 q2)), .second, .val (.long (own_mx q1 q2)), .second, .val (.ref b6), .val .null, .val (.long q3), .second, .unset, .unset, .unset] [(.int (((p4.toUInt32 >>> ((2 : Int32) &&& 31).toUInt32).toInt32) &&& (3 : Int32)))]) (fun t k => XS.iload X6.here hx rfl (hb hby at_114) rfl k) ?_
              refine own_f T6 (mkF m 117 #[.val (.long q1), .second, .val (.long q2), .second, .val (.long q3), .second, .val (.int p4), .val (.int zs), .val (.int ze), .val (.int (((p4.toUInt32 >>> ((2 : Int32) &&& 31).toUInt32).toInt32) &&& (3 : Int32))), .val (.long (own_mn q1 q2)), .second, .val (.long (own_mx q1 q2)), .second, .val (.ref b6), .val .null, .val (.long q3), .second, .unset, .unset, .unset] [(.int (3 : Int32)), (.int (((p4.toUInt32 >>> ((2 : Int32) &&& 31).toUInt32).toInt32) &&& (3 : Int32)))]) (fun t k => XT.iconstV X6.here hx rfl (3 : Int32) (hb hby at_116) (by decide) k) ?_
              by_cases hc49 : (((p4.toUInt32 >>> ((2 : Int32) &&& 31).toUInt32).toInt32) &&& (3 : Int32)) = (3 : Int32)
              · skip
                refine own_f T6 (mkF m 120 #[.val (.long q1), .second, .val (.long q2), .second, .val (.long q3), .second, .val (.int p4), .val (.int zs), .val (.int ze), .val (.int (((p4.toUInt32 >>> ((2 : Int32) &&& 31).toUInt32).toInt32) &&& (3 : Int32))), .val (.long (own_mn q1 q2)), .second, .val (.long (own_mx q1 q2)), .second, .val (.ref b6), .val .null, .val (.long q3), .second, .unset, .unset, .unset] []) (fun t k => XS.icmpNo X6.here hx rfl (hb hby at_117) rfl (XT.ii_ne_f hc49) k) ?_
                refine own_f T6 (mkF m 122 #[.val (.long q1), .second, .val (.long q2), .second, .val (.long q3), .second, .val (.int p4), .val (.int zs), .val (.int ze), .val (.int (((p4.toUInt32 >>> ((2 : Int32) &&& 31).toUInt32).toInt32) &&& (3 : Int32))), .val (.long (own_mn q1 q2)), .second, .val (.long (own_mx q1 q2)), .second, .val (.ref b6), .val .null, .val (.long q3), .second, .unset, .unset, .unset] [(.long (own_mx q1 q2))]) (fun t k => XS.lload X6.here hx rfl (hb hby at_120) rfl k) ?_
                refine own_f T6 (mkF m 123 #[.val (.long q1), .second, .val (.long q2), .second, .val (.long q3), .second, .val (.int p4), .val (.int zs), .val (.int ze), .val (.int (((p4.toUInt32 >>> ((2 : Int32) &&& 31).toUInt32).toInt32) &&& (3 : Int32))), .val (.long (own_mn q1 q2)), .second, .val (.long (own_mx q1 q2)), .second, .val (.ref b6), .val .null, .val (.long q3), .second, .unset, .unset, .unset] [(.long (1 : Int64)), (.long (own_mx q1 q2))]) (fun t k => XT.lconstV X6.here hx rfl (1 : Int64) (hb hby at_122) (by decide) k) ?_
                refine own_f T6 (mkF m 124 #[.val (.long q1), .second, .val (.long q2), .second, .val (.long q3), .second, .val (.int p4), .val (.int zs), .val (.int ze), .val (.int (((p4.toUInt32 >>> ((2 : Int32) &&& 31).toUInt32).toInt32) &&& (3 : Int32))), .val (.long (own_mn q1 q2)), .second, .val (.long (own_mx q1 q2)), .second, .val (.ref b6), .val .null, .val (.long q3), .second, .unset, .unset, .unset] [(.long ((own_mx q1 q2) + (1 : Int64)))]) (fun t k => XS.ladd X6.here hx rfl (hb hby at_123) rfl k) ?_
                refine own_f T6 (mkF m 126 #[.val (.long q1), .second, .val (.long q2), .second, .val (.long q3), .second, .val (.int p4), .val (.int zs), .val (.int ze), .val (.int (((p4.toUInt32 >>> ((2 : Int32) &&& 31).toUInt32).toInt32) &&& (3 : Int32))), .val (.long (own_mn q1 q2)), .second, .val (.long (own_mx q1 q2)), .second, .val (.ref b6), .val .null, .val (.long ((own_mx q1 q2) + (1 : Int64))), .second, .unset, .unset, .unset] []) (fun t k => XS.lstore X6.here hx rfl (hb hby at_124) rfl (l' := #[.val (.long q1), .second, .val (.long q2), .second, .val (.long q3), .second, .val (.int p4), .val (.int zs), .val (.int ze), .val (.int (((p4.toUInt32 >>> ((2 : Int32) &&& 31).toUInt32).toInt32) &&& (3 : Int32))), .val (.long (own_mn q1 q2)), .second, .val (.long (own_mx q1 q2)), .second, .val (.ref b6), .val .null, .val (.long ((own_mx q1 q2) + (1 : Int64))), .second, .unset, .unset, .unset]) rfl k) ?_
                exact jn35 ((own_mx q1 q2) + (1 : Int64))
              · skip
                refine own_f T6 (mkF m 126 #[.val (.long q1), .second, .val (.long q2), .second, .val (.long q3), .second, .val (.int p4), .val (.int zs), .val (.int ze), .val (.int (((p4.toUInt32 >>> ((2 : Int32) &&& 31).toUInt32).toInt32) &&& (3 : Int32))), .val (.long (own_mn q1 q2)), .second, .val (.long (own_mx q1 q2)), .second, .val (.ref b6), .val .null, .val (.long q3), .second, .unset, .unset, .unset] []) (fun t k => XS.icmpYes X6.here hx rfl (pc0 := 117) (pc' := 126) rfl (hb hby at_117) rfl (XT.ii_ne_t hc49) (by decide) (by decide) k) ?_
                exact jn35 q3
      · skip
        refine own_f T4 (mkF m 55 #[.val (.long q1), .second, .val (.long q2), .second, .val (.long q3), .second, .val (.int p4), .val (.int zs), .val (.int ze), .val (.int (((p4.toUInt32 >>> ((2 : Int32) &&& 31).toUInt32).toInt32) &&& (3 : Int32))), .val (.long (own_mn q1 q2)), .second, .val (.long (own_mx q1 q2)), .second, .unset, .unset, .unset, .unset, .unset, .unset, .unset] []) (fun t k => XS.ifNo X4.here hx rfl (hb hby at_52) rfl (XT.i0_eq_f hc5) k) ?_
        refine own_f T4 (mkF m 56 #[.val (.long q1), .second, .val (.long q2), .second, .val (.long q3), .second, .val (.int p4), .val (.int zs), .val (.int ze), .val (.int (((p4.toUInt32 >>> ((2 : Int32) &&& 31).toUInt32).toInt32) &&& (3 : Int32))), .val (.long (own_mn q1 q2)), .second, .val (.long (own_mx q1 q2)), .second, .unset, .unset, .unset, .unset, .unset, .unset, .unset] [.null]) (fun t k => XS.aconstNull X4.here hx rfl (hb hby at_55) k) ?_
        refine own_f T4 (mkF m 64 #[.val (.long q1), .second, .val (.long q2), .second, .val (.long q3), .second, .val (.int p4), .val (.int zs), .val (.int ze), .val (.int (((p4.toUInt32 >>> ((2 : Int32) &&& 31).toUInt32).toInt32) &&& (3 : Int32))), .val (.long (own_mn q1 q2)), .second, .val (.long (own_mx q1 q2)), .second, .unset, .unset, .unset, .unset, .unset, .unset, .unset] [.null]) (fun t k => XS.goto X4.here hx rfl (pc0 := 56) (pc' := 64) rfl (hb hby at_56) (by decide) (by decide) k) ?_
        refine own_f T4 (mkF m 66 #[.val (.long q1), .second, .val (.long q2), .second, .val (.long q3), .second, .val (.int p4), .val (.int zs), .val (.int ze), .val (.int (((p4.toUInt32 >>> ((2 : Int32) &&& 31).toUInt32).toInt32) &&& (3 : Int32))), .val (.long (own_mn q1 q2)), .second, .val (.long (own_mx q1 q2)), .second, .val .null, .unset, .unset, .unset, .unset, .unset, .unset] []) (fun t k => XS.astore X4.here hx rfl (hb hby at_64) rfl rfl (l' := #[.val (.long q1), .second, .val (.long q2), .second, .val (.long q3), .second, .val (.int p4), .val (.int zs), .val (.int ze), .val (.int (((p4.toUInt32 >>> ((2 : Int32) &&& 31).toUInt32).toInt32) &&& (3 : Int32))), .val (.long (own_mn q1 q2)), .second, .val (.long (own_mx q1 q2)), .second, .val .null, .unset, .unset, .unset, .unset, .unset, .unset]) rfl k) ?_
        refine own_f T4 (mkF m 68 #[.val (.long q1), .second, .val (.long q2), .second, .val (.long q3), .second, .val (.int p4), .val (.int zs), .val (.int ze), .val (.int (((p4.toUInt32 >>> ((2 : Int32) &&& 31).toUInt32).toInt32) &&& (3 : Int32))), .val (.long (own_mn q1 q2)), .second, .val (.long (own_mx q1 q2)), .second, .val .null, .unset, .unset, .unset, .unset, .unset, .unset] [(.int ze)]) (fun t k => XS.iload X4.here hx rfl (hb hby at_66) rfl k) ?_
        by_cases hc50 : ze = 0
        · skip
          refine own_f T4 (mkF m 75 #[.val (.long q1), .second, .val (.long q2), .second, .val (.long q3), .second, .val (.int p4), .val (.int zs), .val (.int ze), .val (.int (((p4.toUInt32 >>> ((2 : Int32) &&& 31).toUInt32).toInt32) &&& (3 : Int32))), .val (.long (own_mn q1 q2)), .second, .val (.long (own_mx q1 q2)), .second, .val .null, .unset, .unset, .unset, .unset, .unset, .unset] []) (fun t k => XS.ifYes X4.here hx rfl (pc0 := 68) (pc' := 75) rfl (hb hby at_68) rfl (XT.i0_eq_t hc50) (by decide) (by decide) k) ?_
          refine own_f T4 (mkF m 77 #[.val (.long q1), .second, .val (.long q2), .second, .val (.long q3), .second, .val (.int p4), .val (.int zs), .val (.int ze), .val (.int (((p4.toUInt32 >>> ((2 : Int32) &&& 31).toUInt32).toInt32) &&& (3 : Int32))), .val (.long (own_mn q1 q2)), .second, .val (.long (own_mx q1 q2)), .second, .val .null, .unset, .unset, .unset, .unset, .unset, .unset] [(.long (own_mx q1 q2))]) (fun t k => XS.lload X4.here hx rfl (hb hby at_75) rfl k) ?_
          obtain ⟨_, _, ⟨T51, Lq51, kq_51, nq_51⟩, -, X51, ⟨Lc51, hQ51, lq51, yq51, zq51⟩, st51⟩ := Jvm.LawKit.callS X4 hx (y := (⟨"java/lang/Long", "valueOf", "(J)Ljava/lang/Long;"⟩ : MethodName)) hown (mvT hZ (own_w hw 7 rfl)) (mvT hZ (own_w hw 8 rfl)) (mvT hZ (own_w hw 9 rfl)) (mvT hZ (own_w hw 10 rfl)) (by decide) (backOf (W := 0) (rm8 l Z a0 hw [] (own_mx q1 q2) h0 n0 Z0 F0 HC) hZ (own_w hw 10 rfl) (own_w hw 9 rfl) (by decide) (by decide)) (g := (mkF m 77 #[.val (.long q1), .second, .val (.long q2), .second, .val (.long q3), .second, .val (.int p4), .val (.int zs), .val (.int ze), .val (.int (((p4.toUInt32 >>> ((2 : Int32) &&& 31).toUInt32).toInt32) &&& (3 : Int32))), .val (.long (own_mn q1 q2)), .second, .val (.long (own_mx q1 q2)), .second, .val .null, .unset, .unset, .unset, .unset, .unset, .unset] [(.long (own_mx q1 q2))])) rfl (by rw [hml]; rfl) (argsL := [(.long (own_mx q1 q2))]) (rest := []) (lenOf pd__J_Ljava_lang_Long_ rfl) rfl (by show 2 * 0 + _ ≤ _; exact Nat.le_of_eq rfl) (hb hby at_77) (fun _ _ => ⟨rfl, e4, (by decide : 0 + 0 + 0 + 1 ≤ _), (by decide : 0 + 0 + 0 + 1 ≤ _)⟩)
          dsimp only [Pt.U, Pt.locs, Pt.cells, Pt.slots] at X51 lq51 yq51 zq51 st51 hQ51
          subst lq51 yq51 zq51
          obtain ⟨h51, e51⟩ : ∃ z, T51.heap = z := ⟨_, rfl⟩
          rw [e51] at hQ51
          unfold Q8 at hQ51
          obtain ⟨b51, rfl, Nq51, qh51, G51_0, G51_1⟩ := hQ51
          have N51 := Fr.app N4 Nq51
          have Zs51 : n0 ≤ h51.size := Nat.le_trans Z0 qh51.1
          have F_52 := F0.keep qh51 all0
          refine own_f T51 (mkF m 80 #[.val (.long q1), .second, .val (.long q2), .second, .val (.long q3), .second, .val (.int p4), .val (.int zs), .val (.int ze), .val (.int (((p4.toUInt32 >>> ((2 : Int32) &&& 31).toUInt32).toInt32) &&& (3 : Int32))), .val (.long (own_mn q1 q2)), .second, .val (.long (own_mx q1 q2)), .second, .val .null, .unset, .unset, .unset, .unset, .unset, .unset] [(.ref b51)]) st51 ?_
          refine own_f T51 (mkF m 82 #[.val (.long q1), .second, .val (.long q2), .second, .val (.long q3), .second, .val (.int p4), .val (.int zs), .val (.int ze), .val (.int (((p4.toUInt32 >>> ((2 : Int32) &&& 31).toUInt32).toInt32) &&& (3 : Int32))), .val (.long (own_mn q1 q2)), .second, .val (.long (own_mx q1 q2)), .second, .val .null, .val (.ref b51), .unset, .unset, .unset, .unset, .unset] []) (fun t k => XS.astore X51.here hx rfl (hb hby at_80) rfl rfl (l' := #[.val (.long q1), .second, .val (.long q2), .second, .val (.long q3), .second, .val (.int p4), .val (.int zs), .val (.int ze), .val (.int (((p4.toUInt32 >>> ((2 : Int32) &&& 31).toUInt32).toInt32) &&& (3 : Int32))), .val (.long (own_mn q1 q2)), .second, .val (.long (own_mx q1 q2)), .second, .val .null, .val (.ref b51), .unset, .unset, .unset, .unset, .unset]) rfl k) ?_
          refine own_f T51 (mkF m 84 #[.val (.long q1), .second, .val (.long q2), .second, .val (.long q3), .second, .val (.int p4), .val (.int zs), .val (.int ze), .val (.int (((p4.toUInt32 >>> ((2 : Int32) &&& 31).toUInt32).toInt32) &&& (3 : Int32))), .val (.long (own_mn q1 q2)), .second, .val (.long (own_mx q1 q2)), .second, .val .null, .val (.ref b51), .unset, .unset, .unset, .unset, .unset] [(.long q3)]) (fun t k => XS.lload X51.here hx rfl (hb hby at_82) rfl k) ?_
          refine own_f T51 (mkF m 86 #[.val (.long q1), .second, .val (.long q2), .second, .val (.long q3), .second, .val (.int p4), .val (.int zs), .val (.int ze), .val (.int (((p4.toUInt32 >>> ((2 : Int32) &&& 31).toUInt32).toInt32) &&& (3 : Int32))), .val (.long (own_mn q1 q2)), .second, .val (.long (own_mx q1 q2)), .second, .val .null, .val (.ref b51), .val (.long q3), .second, .unset, .unset, .unset] []) (fun t k => XS.lstore X51.here hx rfl (hb hby at_84) rfl (l' := #[.val (.long q1), .second, .val (.long q2), .second, .val (.long q3), .second, .val (.int p4), .val (.int zs), .val (.int ze), .val (.int (((p4.toUInt32 >>> ((2 : Int32) &&& 31).toUInt32).toInt32) &&& (3 : Int32))), .val (.long (own_mn q1 q2)), .second, .val (.long (own_mx q1 q2)), .second, .val .null, .val (.ref b51), .val (.long q3), .second, .unset, .unset, .unset]) rfl k) ?_
          refine own_f T51 (mkF m 88 #[.val (.long q1), .second, .val (.long q2), .second, .val (.long q3), .second, .val (.int p4), .val (.int zs), .val (.int ze), .val (.int (((p4.toUInt32 >>> ((2 : Int32) &&& 31).toUInt32).toInt32) &&& (3 : Int32))), .val (.long (own_mn q1 q2)), .second, .val (.long (own_mx q1 q2)), .second, .val .null, .val (.ref b51), .val (.long q3), .second, .unset, .unset, .unset] [(.int (((p4.toUInt32 >>> ((2 : Int32) &&& 31).toUInt32).toInt32) &&& (3 : Int32)))]) (fun t k => XS.iload X51.here hx rfl (hb hby at_86) rfl k) ?_
          refine own_f T51 (mkF m 89 #[.val (.long q1), .second, .val (.long q2), .second, .val (.long q3), .second, .val (.int p4), .val (.int zs), .val (.int ze), .val (.int (((p4.toUInt32 >>> ((2 : Int32) &&& 31).toUInt32).toInt32) &&& (3 : Int32))), .val (.long (own_mn q1 q2)), .second, .val (.long (own_mx q1 q2)), .second, .val .null, .val (.ref b51), .val (.long q3), .second, .unset, .unset, .unset] [(.int (1 : Int32)), (.int (((p4.toUInt32 >>> ((2 : Int32) &&& 31).toUInt32).toInt32) &&& (3 : Int32)))]) (fun t k => XT.iconstV X51.here hx rfl (1 : Int32) (hb hby at_88) (by decide) k) ?_
          have jn53 : ∀ (tt : Int64), own_R p.tables e below (own_P s (Q0 Z q1 q2 q3 p4 h0 n0) room_1.cells room_1.slots) (T51.setTop (mkF m 126 #[.val (.long q1), .second, .val (.long q2), .second, .val (.long q3), .second, .val (.int p4), .val (.int zs), .val (.int ze), .val (.int (((p4.toUInt32 >>> ((2 : Int32) &&& 31).toUInt32).toInt32) &&& (3 : Int32))), .val (.long (own_mn q1 q2)), .second, .val (.long (own_mx q1 q2)), .second, .val .null, .val (.ref b51), .val (.long tt), .second, .unset, .unset, .unset] [])) := by
            intro tt
            obtain ⟨T54, h54, X54, e54, E54, A54, D54, U54, st54⟩ := newO X51 hx hZ hown (own_w hw 15 rfl) (own_w hw 16 rfl) (own_w hw 17 rfl) e51 (g := (mkF m 126 #[.val (.long q1), .second, .val (.long q2), .second, .val (.long q3), .second, .val (.int p4), .val (.int zs), .val (.int ze), .val (.int (((p4.toUInt32 >>> ((2 : Int32) &&& 31).toUInt32).toInt32) &&& (3 : Int32))), .val (.long (own_mn q1 q2)), .second, .val (.long (own_mx q1 q2)), .second, .val .null, .val (.ref b51), .val (.long tt), .second, .unset, .unset, .unset] [])) rfl (hb hby at_126) (by decide) (by decide)
            obtain ⟨b54, g54⟩ : ∃ z, z = h51.size := ⟨_, rfl⟩
            rw [← g54] at A54 D54 st54
            have ne54_b51 : b51 ≠ b54 := by rw [g54]; exact Nat.ne_of_lt G51_0.lt
            have ge54 : n0 ≤ b54 := by rw [g54]; exact Zs51
            have Zs54 : n0 ≤ h54.size := Nat.le_trans Zs51 E54.1
            have F_55 := F_52.ext E54
            have F_56 := G51_0.ext E54
            have F_57 := G51_1.ext E54
            have F_58 : Fld Z h54 b54 "com/example/reading_buckets/readingbuckets/TimeRange" "from" "Ljava/lang/Long;" .null := D54 (Or.inr (own_w hw 30 rfl)) (ty := (.object "java/lang/Long")) (by decide)
            have F_59 : Fld Z h54 b54 "com/example/reading_buckets/readingbuckets/TimeRange" "to" "Ljava/lang/Long;" .null := D54 (Or.inr (own_w hw 32 rfl)) (ty := (.object "java/lang/Long")) (by decide)
            refine own_f T54 (mkF m 129 #[.val (.long q1), .second, .val (.long q2), .second, .val (.long q3), .second, .val (.int p4), .val (.int zs), .val (.int ze), .val (.int (((p4.toUInt32 >>> ((2 : Int32) &&& 31).toUInt32).toInt32) &&& (3 : Int32))), .val (.long (own_mn q1 q2)), .second, .val (.long (own_mx q1 q2)), .second, .val .null, .val (.ref b51), .val (.long tt), .second, .unset, .unset, .unset] [(.ref b54)]) st54 ?_
            refine own_f T54 (mkF m 130 #[.val (.long q1), .second, .val (.long q2), .second, .val (.long q3), .second, .val (.int p4), .val (.int zs), .val (.int ze), .val (.int (((p4.toUInt32 >>> ((2 : Int32) &&& 31).toUInt32).toInt32) &&& (3 : Int32))), .val (.long (own_mn q1 q2)), .second, .val (.long (own_mx q1 q2)), .second, .val .null, .val (.ref b51), .val (.long tt), .second, .unset, .unset, .unset] [(.ref b54), (.ref b54)]) (fun t k => XS.dup X54.here hx rfl (hb hby at_129) rfl rfl k) ?_
            refine own_f T54 (mkF m 132 #[.val (.long q1), .second, .val (.long q2), .second, .val (.long q3), .second, .val (.int p4), .val (.int zs), .val (.int ze), .val (.int (((p4.toUInt32 >>> ((2 : Int32) &&& 31).toUInt32).toInt32) &&& (3 : Int32))), .val (.long (own_mn q1 q2)), .second, .val (.long (own_mx q1 q2)), .second, .val .null, .val (.ref b51), .val (.long tt), .second, .unset, .unset, .unset] [.null, (.ref b54), (.ref b54)]) (fun t k => XS.aload X54.here hx rfl (hb hby at_130) rfl rfl k) ?_
            refine own_f T54 (mkF m 134 #[.val (.long q1), .second, .val (.long q2), .second, .val (.long q3), .second, .val (.int p4), .val (.int zs), .val (.int ze), .val (.int (((p4.toUInt32 >>> ((2 : Int32) &&& 31).toUInt32).toInt32) &&& (3 : Int32))), .val (.long (own_mn q1 q2)), .second, .val (.long (own_mx q1 q2)), .second, .val .null, .val (.ref b51), .val (.long tt), .second, .unset, .unset, .unset] [(.ref b51), .null, (.ref b54), (.ref b54)]) (fun t k => XS.aload X54.here hx rfl (hb hby at_132) rfl rfl k) ?_
            obtain ⟨_, _, ⟨T60, Lq60, kq_60, nq_60⟩, -, X60, ⟨Lc60, hQ60, lq60, yq60, zq60⟩, st60⟩ := X54.specialBack hx (y := (⟨"com/example/reading_buckets/readingbuckets/TimeRange", "<init>", "(Ljava/lang/Long;Ljava/lang/Long;)V"⟩ : MethodName)) rfl hown (mvT hZ (own_w hw 18 rfl)) (mvT hZ (own_w hw 19 rfl)) (mvT hZ (own_w hw 20 rfl)) (by decide) (backOf (W := 1) (rm901 l Z a0 hw [] b54 b51 _ _ h54 n0 Zs54 A54 F_58 F_59 ge54) hZ (own_w hw 20 rfl) (own_w hw 17 rfl) (by decide) (by decide)) (g := (mkF m 134 #[.val (.long q1), .second, .val (.long q2), .second, .val (.long q3), .second, .val (.int p4), .val (.int zs), .val (.int ze), .val (.int (((p4.toUInt32 >>> ((2 : Int32) &&& 31).toUInt32).toInt32) &&& (3 : Int32))), .val (.long (own_mn q1 q2)), .second, .val (.long (own_mx q1 q2)), .second, .val .null, .val (.ref b51), .val (.long tt), .second, .unset, .unset, .unset] [(.ref b51), .null, (.ref b54), (.ref b54)])) rfl (by rw [hml]; rfl) (Steps.refl _) (a := b54) (argsL := [.null, (.ref b51)]) (rest := [(.ref b54)]) (lenOf pd__Ljava_lang_Long_Ljava_lang_Long_V rfl) rfl (by show 2 * 0 + _ ≤ _; exact Nat.le_of_eq rfl) (hb hby at_134) (fun _ _ => ⟨rfl, e54, (by decide : 0 + 0 + 0 + 1 + 1 + 0 ≤ _), (by decide : 0 + 0 + 0 + 1 + 2 + 0 ≤ _)⟩)
            dsimp only [Pt.U, Pt.locs, Pt.cells, Pt.slots] at X60 lq60 yq60 zq60 st60 hQ60
            subst lq60 yq60 zq60
            obtain ⟨h60, e60⟩ : ∃ z, T60.heap = z := ⟨_, rfl⟩
            rw [e60] at hQ60
            unfold Q901 at hQ60
            obtain ⟨rfl, Nq60, qh60, G60_0, G60_1⟩ := hQ60
            have N60 := Fr.app N51 Nq60
            have Zs60 : n0 ≤ h60.size := Nat.le_trans Zs54 qh60.1
            have F_61 := F_55.keep qh60 (allS ge54 all0)
            have F_62 := F_56.keep qh60
            have F_63 := F_57.keep qh60 (ninS ne54_b51 nin0)
            refine own_g T60 (mkF m 137 #[.val (.long q1), .second, .val (.long q2), .second, .val (.long q3), .second, .val (.int p4), .val (.int zs), .val (.int ze), .val (.int (((p4.toUInt32 >>> ((2 : Int32) &&& 31).toUInt32).toInt32) &&& (3 : Int32))), .val (.long (own_mn q1 q2)), .second, .val (.long (own_mx q1 q2)), .second, .val .null, .val (.ref b51), .val (.long tt), .second, .unset, .unset, .unset] [(.ref b54)]) st60 ?_
            refine own_f T60 (mkF m 139 #[.val (.long q1), .second, .val (.long q2), .second, .val (.long q3), .second, .val (.int p4), .val (.int zs), .val (.int ze), .val (.int (((p4.toUInt32 >>> ((2 : Int32) &&& 31).toUInt32).toInt32) &&& (3 : Int32))), .val (.long (own_mn q1 q2)), .second, .val (.long (own_mx q1 q2)), .second, .val .null, .val (.ref b51), .val (.long tt), .second, .val (.ref b54), .unset, .unset] []) (fun t k => XS.astore X60.here hx rfl (hb hby at_137) rfl rfl (l' := #[.val (.long q1), .second, .val (.long q2), .second, .val (.long q3), .second, .val (.int p4), .val (.int zs), .val (.int ze), .val (.int (((p4.toUInt32 >>> ((2 : Int32) &&& 31).toUInt32).toInt32) &&& (3 : Int32))), .val (.long (own_mn q1 q2)), .second, .val (.long (own_mx q1 q2)), .second, .val .null, .val (.ref b51), .val (.long tt), .second, .val (.ref b54), .unset, .unset]) rfl k) ?_
            refine own_f T60 (mkF m 141 #[.val (.long q1), .second, .val (.long q2), .second, .val (.long q3), .second, .val (.int p4), .val (.int zs), .val (.int ze), .val (.int (((p4.toUInt32 >>> ((2 : Int32) &&& 31).toUInt32).toInt32) &&& (3 : Int32))), .val (.long (own_mn q1 q2)), .second, .val (.long (own_mx q1 q2)), .second, .val .null, .val (.ref b51), .val (.long tt), .second, .val (.ref b54), .unset, .unset] [(.ref b54)]) (fun t k => XS.aload X60.here hx rfl (hb hby at_139) rfl rfl k) ?_
            refine own_f T60 (mkF m 143 #[.val (.long q1), .second, .val (.long q2), .second, .val (.long q3), .second, .val (.int p4), .val (.int zs), .val (.int ze), .val (.int (((p4.toUInt32 >>> ((2 : Int32) &&& 31).toUInt32).toInt32) &&& (3 : Int32))), .val (.long (own_mn q1 q2)), .second, .val (.long (own_mx q1 q2)), .second, .val .null, .val (.ref b51), .val (.long tt), .second, .val (.ref b54), .unset, .unset] [(.long tt), (.ref b54)]) (fun t k => XS.lload X60.here hx rfl (hb hby at_141) rfl k) ?_
            obtain ⟨cq64, kq64, qa64, qb64, qc64⟩ := isOf hZ e60 G60_0
            obtain ⟨_, _, ⟨T64, Lq64, kq_64, nq_64⟩, -, X64, ⟨Lc64, hQ64, lq64, yq64, zq64⟩, st64⟩ := X60.virtualBack hx (y := (⟨"com/example/reading_buckets/readingbuckets/TimeRange", "endsAtOrBefore", "(J)Z"⟩ : MethodName)) (z := (⟨"com/example/reading_buckets/readingbuckets/TimeRange", "endsAtOrBefore", "(J)Z"⟩ : MethodName)) hown (mvT hZ (own_w hw 33 rfl)) (mvT hZ (own_w hw 34 rfl)) (notFace_of_selects (args := #[]) (mvT hZ (own_w hw 36 rfl))) (mvT hZ (own_w hw 36 rfl)) (mvT hZ (own_w hw 35 rfl)) (by decide) (backOf (W := 0) (rma1 l Z a0 hw [] b54 tt _ _ h60 n0 Zs60 G60_1 F_62 F_63) hZ (own_w hw 37 rfl) (own_w hw 17 rfl) (by decide) (by decide)) qa64 qc64 (g := (mkF m 143 #[.val (.long q1), .second, .val (.long q2), .second, .val (.long q3), .second, .val (.int p4), .val (.int zs), .val (.int ze), .val (.int (((p4.toUInt32 >>> ((2 : Int32) &&& 31).toUInt32).toInt32) &&& (3 : Int32))), .val (.long (own_mn q1 q2)), .second, .val (.long (own_mx q1 q2)), .second, .val .null, .val (.ref b51), .val (.long tt), .second, .val (.ref b54), .unset, .unset] [(.long tt), (.ref b54)])) rfl (by rw [hml]; rfl) (Steps.refl _) (argsL := [(.long tt)]) (rest := []) (lenOf pd__J_Z rfl) rfl (by show 2 * 0 + _ ≤ _; exact Nat.le_of_eq rfl) (hb hby at_143) (fun _ _ => ⟨rfl, e60, (by decide : 0 + 0 + 0 + 1 + 1 + 0 + 0 ≤ _), (by decide : 0 + 0 + 0 + 1 + 2 + 0 + 0 ≤ _)⟩)
            dsimp only [Pt.U, Pt.locs, Pt.cells, Pt.slots] at X64 lq64 yq64 zq64 st64 hQ64
            subst lq64 yq64 zq64
            obtain ⟨h64, e64⟩ : ∃ z, T64.heap = z := ⟨_, rfl⟩
            rw [e64] at hQ64
            unfold Qa1 at hQ64
            obtain ⟨rfl, Nq64, qh64⟩ := hQ64
            have N64 := Fr.app N60 Nq64
            rw [qh64] at e64
            refine own_g T64 (mkF m 146 #[.val (.long q1), .second, .val (.long q2), .second, .val (.long q3), .second, .val (.int p4), .val (.int zs), .val (.int ze), .val (.int (((p4.toUInt32 >>> ((2 : Int32) &&& 31).toUInt32).toInt32) &&& (3 : Int32))), .val (.long (own_mn q1 q2)), .second, .val (.long (own_mx q1 q2)), .second, .val .null, .val (.ref b51), .val (.long tt), .second, .val (.ref b54), .unset, .unset] [(.int (own_ge (own_mx q1 q2) tt))]) st64 ?_
            refine own_f T64 (mkF m 148 #[.val (.long q1), .second, .val (.long q2), .second, .val (.long q3), .second, .val (.int p4), .val (.int zs), .val (.int ze), .val (.int (((p4.toUInt32 >>> ((2 : Int32) &&& 31).toUInt32).toInt32) &&& (3 : Int32))), .val (.long (own_mn q1 q2)), .second, .val (.long (own_mx q1 q2)), .second, .val .null, .val (.ref b51), .val (.long tt), .second, .val (.ref b54), .val (.int (own_ge (own_mx q1 q2) tt)), .unset] []) (fun t k => XS.istore X64.here hx rfl (hb hby at_146) rfl (l' := #[.val (.long q1), .second, .val (.long q2), .second, .val (.long q3), .second, .val (.int p4), .val (.int zs), .val (.int ze), .val (.int (((p4.toUInt32 >>> ((2 : Int32) &&& 31).toUInt32).toInt32) &&& (3 : Int32))), .val (.long (own_mn q1 q2)), .second, .val (.long (own_mx q1 q2)), .second, .val .null, .val (.ref b51), .val (.long tt), .second, .val (.ref b54), .val (.int (own_ge (own_mx q1 q2) tt)), .unset]) rfl k) ?_
            refine own_f T64 (mkF m 150 #[.val (.long q1), .second, .val (.long q2), .second, .val (.long q3), .second, .val (.int p4), .val (.int zs), .val (.int ze), .val (.int (((p4.toUInt32 >>> ((2 : Int32) &&& 31).toUInt32).toInt32) &&& (3 : Int32))), .val (.long (own_mn q1 q2)), .second, .val (.long (own_mx q1 q2)), .second, .val .null, .val (.ref b51), .val (.long tt), .second, .val (.ref b54), .val (.int (own_ge (own_mx q1 q2) tt)), .unset] [(.int ze)]) (fun t k => XS.iload X64.here hx rfl (hb hby at_148) rfl k) ?_
            refine own_f T64 (mkF m 159 #[.val (.long q1), .second, .val (.long q2), .second, .val (.long q3), .second, .val (.int p4), .val (.int zs), .val (.int ze), .val (.int (((p4.toUInt32 >>> ((2 : Int32) &&& 31).toUInt32).toInt32) &&& (3 : Int32))), .val (.long (own_mn q1 q2)), .second, .val (.long (own_mx q1 q2)), .second, .val .null, .val (.ref b51), .val (.long tt), .second, .val (.ref b54), .val (.int (own_ge (own_mx q1 q2) tt)), .unset] []) (fun t k => XS.ifYes X64.here hx rfl (pc0 := 150) (pc' := 159) rfl (hb hby at_150) rfl (XT.i0_eq_t hc50) (by decide) (by decide) k) ?_
            refine own_f T64 (mkF m 161 #[.val (.long q1), .second, .val (.long q2), .second, .val (.long q3), .second, .val (.int p4), .val (.int zs), .val (.int ze), .val (.int (((p4.toUInt32 >>> ((2 : Int32) &&& 31).toUInt32).toInt32) &&& (3 : Int32))), .val (.long (own_mn q1 q2)), .second, .val (.long (own_mx q1 q2)), .second, .val .null, .val (.ref b51), .val (.long tt), .second, .val (.ref b54), .val (.int (own_ge (own_mx q1 q2) tt)), .unset] [(.long tt)]) (fun t k => XS.lload X64.here hx rfl (hb hby at_159) rfl k) ?_
            refine own_f T64 (mkF m 163 #[.val (.long q1), .second, .val (.long q2), .second, .val (.long q3), .second, .val (.int p4), .val (.int zs), .val (.int ze), .val (.int (((p4.toUInt32 >>> ((2 : Int32) &&& 31).toUInt32).toInt32) &&& (3 : Int32))), .val (.long (own_mn q1 q2)), .second, .val (.long (own_mx q1 q2)), .second, .val .null, .val (.ref b51), .val (.long tt), .second, .val (.ref b54), .val (.int (own_ge (own_mx q1 q2) tt)), .unset] [(.long (own_mx q1 q2)), (.long tt)]) (fun t k => XS.lload X64.here hx rfl (hb hby at_161) rfl k) ?_
            refine own_f T64 (mkF m 164 #[.val (.long q1), .second, .val (.long q2), .second, .val (.long q3), .second, .val (.int p4), .val (.int zs), .val (.int ze), .val (.int (((p4.toUInt32 >>> ((2 : Int32) &&& 31).toUInt32).toInt32) &&& (3 : Int32))), .val (.long (own_mn q1 q2)), .second, .val (.long (own_mx q1 q2)), .second, .val .null, .val (.ref b51), .val (.long tt), .second, .val (.ref b54), .val (.int (own_ge (own_mx q1 q2) tt)), .unset] [(.int (XT.cmpL tt (own_mx q1 q2)))]) (fun t k => XT.lcmp X64.here hx rfl (hb hby at_163) rfl k) ?_
            by_cases hc65 : tt < (own_mx q1 q2)
            · skip
              refine own_f T64 (mkF m 171 #[.val (.long q1), .second, .val (.long q2), .second, .val (.long q3), .second, .val (.int p4), .val (.int zs), .val (.int ze), .val (.int (((p4.toUInt32 >>> ((2 : Int32) &&& 31).toUInt32).toInt32) &&& (3 : Int32))), .val (.long (own_mn q1 q2)), .second, .val (.long (own_mx q1 q2)), .second, .val .null, .val (.ref b51), .val (.long tt), .second, .val (.ref b54), .val (.int (own_ge (own_mx q1 q2) tt)), .unset] []) (fun t k => XS.ifYes X64.here hx rfl (pc0 := 164) (pc' := 171) rfl (hb hby at_164) rfl (XT.ll_lt_t hc65) (by decide) (by decide) k) ?_
              refine own_f T64 (mkF m 172 #[.val (.long q1), .second, .val (.long q2), .second, .val (.long q3), .second, .val (.int p4), .val (.int zs), .val (.int ze), .val (.int (((p4.toUInt32 >>> ((2 : Int32) &&& 31).toUInt32).toInt32) &&& (3 : Int32))), .val (.long (own_mn q1 q2)), .second, .val (.long (own_mx q1 q2)), .second, .val .null, .val (.ref b51), .val (.long tt), .second, .val (.ref b54), .val (.int (own_ge (own_mx q1 q2) tt)), .unset] [(.int (0 : Int32))]) (fun t k => XT.iconstV X64.here hx rfl (0 : Int32) (hb hby at_171) (by decide) k) ?_
              refine own_f T64 (mkF m 174 #[.val (.long q1), .second, .val (.long q2), .second, .val (.long q3), .second, .val (.int p4), .val (.int zs), .val (.int ze), .val (.int (((p4.toUInt32 >>> ((2 : Int32) &&& 31).toUInt32).toInt32) &&& (3 : Int32))), .val (.long (own_mn q1 q2)), .second, .val (.long (own_mx q1 q2)), .second, .val .null, .val (.ref b51), .val (.long tt), .second, .val (.ref b54), .val (.int (own_ge (own_mx q1 q2) tt)), .val (.int (0 : Int32))] []) (fun t k => XS.istore X64.here hx rfl (hb hby at_172) rfl (l' := #[.val (.long q1), .second, .val (.long q2), .second, .val (.long q3), .second, .val (.int p4), .val (.int zs), .val (.int ze), .val (.int (((p4.toUInt32 >>> ((2 : Int32) &&& 31).toUInt32).toInt32) &&& (3 : Int32))), .val (.long (own_mn q1 q2)), .second, .val (.long (own_mx q1 q2)), .second, .val .null, .val (.ref b51), .val (.long tt), .second, .val (.ref b54), .val (.int (own_ge (own_mx q1 q2) tt)), .val (.int (0 : Int32))]) rfl k) ?_
              refine own_f T64 (mkF m 176 #[.val (.long q1), .second, .val (.long q2), .second, .val (.long q3), .second, .val (.int p4), .val (.int zs), .val (.int ze), .val (.int (((p4.toUInt32 >>> ((2 : Int32) &&& 31).toUInt32).toInt32) &&& (3 : Int32))), .val (.long (own_mn q1 q2)), .second, .val (.long (own_mx q1 q2)), .second, .val .null, .val (.ref b51), .val (.long tt), .second, .val (.ref b54), .val (.int (own_ge (own_mx q1 q2) tt)), .val (.int (0 : Int32))] [(.int (own_ge (own_mx q1 q2) tt))]) (fun t k => XS.iload X64.here hx rfl (hb hby at_174) rfl k) ?_
              refine own_f T64 (mkF m 178 #[.val (.long q1), .second, .val (.long q2), .second, .val (.long q3), .second, .val (.int p4), .val (.int zs), .val (.int ze), .val (.int (((p4.toUInt32 >>> ((2 : Int32) &&& 31).toUInt32).toInt32) &&& (3 : Int32))), .val (.long (own_mn q1 q2)), .second, .val (.long (own_mx q1 q2)), .second, .val .null, .val (.ref b51), .val (.long tt), .second, .val (.ref b54), .val (.int (own_ge (own_mx q1 q2) tt)), .val (.int (0 : Int32))] [(.int (0 : Int32)), (.int (own_ge (own_mx q1 q2) tt))]) (fun t k => XS.iload X64.here hx rfl (hb hby at_176) rfl k) ?_
              have hc66 : (own_ge (own_mx q1 q2) tt) = (0 : Int32) := by rw [own_ge, if_pos hc65] <;> rfl
              refine own_f T64 (mkF m 181 #[.val (.long q1), .second, .val (.long q2), .second, .val (.long q3), .second, .val (.int p4), .val (.int zs), .val (.int ze), .val (.int (((p4.toUInt32 >>> ((2 : Int32) &&& 31).toUInt32).toInt32) &&& (3 : Int32))), .val (.long (own_mn q1 q2)), .second, .val (.long (own_mx q1 q2)), .second, .val .null, .val (.ref b51), .val (.long tt), .second, .val (.ref b54), .val (.int (own_ge (own_mx q1 q2) tt)), .val (.int (0 : Int32))] []) (fun t k => XS.icmpNo X64.here hx rfl (hb hby at_178) rfl (XT.ii_ne_f hc66) k) ?_
              refine own_f T64 (mkF m 182 #[.val (.long q1), .second, .val (.long q2), .second, .val (.long q3), .second, .val (.int p4), .val (.int zs), .val (.int ze), .val (.int (((p4.toUInt32 >>> ((2 : Int32) &&& 31).toUInt32).toInt32) &&& (3 : Int32))), .val (.long (own_mn q1 q2)), .second, .val (.long (own_mx q1 q2)), .second, .val .null, .val (.ref b51), .val (.long tt), .second, .val (.ref b54), .val (.int (own_ge (own_mx q1 q2) tt)), .val (.int (0 : Int32))] [(.int (1 : Int32))]) (fun t k => XT.iconstV X64.here hx rfl (1 : Int32) (hb hby at_181) (by decide) k) ?_
              refine own_f T64 (mkF m 186 #[.val (.long q1), .second, .val (.long q2), .second, .val (.long q3), .second, .val (.int p4), .val (.int zs), .val (.int ze), .val (.int (((p4.toUInt32 >>> ((2 : Int32) &&& 31).toUInt32).toInt32) &&& (3 : Int32))), .val (.long (own_mn q1 q2)), .second, .val (.long (own_mx q1 q2)), .second, .val .null, .val (.ref b51), .val (.long tt), .second, .val (.ref b54), .val (.int (own_ge (own_mx q1 q2) tt)), .val (.int (0 : Int32))] [(.int (1 : Int32))]) (fun t k => XS.goto X64.here hx rfl (pc0 := 182) (pc' := 186) rfl (hb hby at_182) (by decide) (by decide) k) ?_
              obtain ⟨fs, hr, hrun, hended, hW, hsame⟩ := X64.leave (v := some (.int (1 : Int32))) (fun h => by rw [Bd.returns] at h; cases h)
              refine ⟨_, _, retN X64 hx (t := .boolean) Bd.returns (by simp) (hb hby at_186) hr, hrun, hended, _, _, rfl, ?_, ⟨_, rfl⟩, hW, hsame.mono (by decide) (by decide)⟩
              show Q0 Z q1 q2 q3 p4 h0 n0 _ T64.heap _
              rw [e64]
              exact ⟨rfl, N64⟩
            · skip
              refine own_f T64 (mkF m 167 #[.val (.long q1), .second, .val (.long q2), .second, .val (.long q3), .second, .val (.int p4), .val (.int zs), .val (.int ze), .val (.int (((p4.toUInt32 >>> ((2 : Int32) &&& 31).toUInt32).toInt32) &&& (3 : Int32))), .val (.long (own_mn q1 q2)), .second, .val (.long (own_mx q1 q2)), .second, .val .null, .val (.ref b51), .val (.long tt), .second, .val (.ref b54), .val (.int (own_ge (own_mx q1 q2) tt)), .unset] []) (fun t k => XS.ifNo X64.here hx rfl (hb hby at_164) rfl (XT.ll_lt_f hc65) k) ?_
              refine own_f T64 (mkF m 168 #[.val (.long q1), .second, .val (.long q2), .second, .val (.long q3), .second, .val (.int p4), .val (.int zs), .val (.int ze), .val (.int (((p4.toUInt32 >>> ((2 : Int32) &&& 31).toUInt32).toInt32) &&& (3 : Int32))), .val (.long (own_mn q1 q2)), .second, .val (.long (own_mx q1 q2)), .second, .val .null, .val (.ref b51), .val (.long tt), .second, .val (.ref b54), .val (.int (own_ge (own_mx q1 q2) tt)), .unset] [(.int (1 : Int32))]) (fun t k => XT.iconstV X64.here hx rfl (1 : Int32) (hb hby at_167) (by decide) k) ?_
              refine own_f T64 (mkF m 172 #[.val (.long q1), .second, .val (.long q2), .second, .val (.long q3), .second, .val (.int p4), .val (.int zs), .val (.int ze), .val (.int (((p4.toUInt32 >>> ((2 : Int32) &&& 31).toUInt32).toInt32) &&& (3 : Int32))), .val (.long (own_mn q1 q2)), .second, .val (.long (own_mx q1 q2)), .second, .val .null, .val (.ref b51), .val (.long tt), .second, .val (.ref b54), .val (.int (own_ge (own_mx q1 q2) tt)), .unset] [(.int (1 : Int32))]) (fun t k => XS.goto X64.here hx rfl (pc0 := 168) (pc' := 172) rfl (hb hby at_168) (by decide) (by decide) k) ?_
              refine own_f T64 (mkF m 174 #[.val (.long q1), .second, .val (.long q2), .second, .val (.long q3), .second, .val (.int p4), .val (.int zs), .val (.int ze), .val (.int (((p4.toUInt32 >>> ((2 : Int32) &&& 31).toUInt32).toInt32) &&& (3 : Int32))), .val (.long (own_mn q1 q2)), .second, .val (.long (own_mx q1 q2)), .second, .val .null, .val (.ref b51), .val (.long tt), .second, .val (.ref b54), .val (.int (own_ge (own_mx q1 q2) tt)), .val (.int (1 : Int32))] []) (fun t k => XS.istore X64.here hx rfl (hb hby at_172) rfl (l' := #[.val (.long q1), .second, .val (.long q2), .second, .val (.long q3), .second, .val (.int p4), .val (.int zs), .val (.int ze), .val (.int (((p4.toUInt32 >>> ((2 : Int32) &&& 31).toUInt32).toInt32) &&& (3 : Int32))), .val (.long (own_mn q1 q2)), .second, .val (.long (own_mx q1 q2)), .second, .val .null, .val (.ref b51), .val (.long tt), .second, .val (.ref b54), .val (.int (own_ge (own_mx q1 q2) tt)), .val (.int (1 : Int32))]) rfl k) ?_
              refine own_f T64 (mkF m 176 #[.val (.long q1), .second, .val (.long q2), .second, .val (.long q3), .second, .val (.int p4), .val (.int zs), .val (.int ze), .val (.int (((p4.toUInt32 >>> ((2 : Int32) &&& 31).toUInt32).toInt32) &&& (3 : Int32))), .val (.long (own_mn q1 q2)), .second, .val (.long (own_mx q1 q2)), .second, .val .null, .val (.ref b51), .val (.long tt), .second, .val (.ref b54), .val (.int (own_ge (own_mx q1 q2) tt)), .val (.int (1 : Int32))] [(.int (own_ge (own_mx q1 q2) tt))]) (fun t k => XS.iload X64.here hx rfl (hb hby at_174) rfl k) ?_
              refine own_f T64 (mkF m 178 #[.val (.long q1), .second, .val (.long q2), .second, .val (.long q3), .second, .val (.int p4), .val (.int zs), .val (.int ze), .val (.int (((p4.toUInt32 >>> ((2 : Int32) &&& 31).toUInt32).toInt32) &&& (3 : Int32))), .val (.long (own_mn q1 q2)), .second, .val (.long (own_mx q1 q2)), .second, .val .null, .val (.ref b51), .val (.long tt), .second, .val (.ref b54), .val (.int (own_ge (own_mx q1 q2) tt)), .val (.int (1 : Int32))] [(.int (1 : Int32)), (.int (own_ge (own_mx q1 q2) tt))]) (fun t k => XS.iload X64.here hx rfl (hb hby at_176) rfl k) ?_
              have hc67 : (own_ge (own_mx q1 q2) tt) = (1 : Int32) := by rw [own_ge, if_neg hc65] <;> rfl
              refine own_f T64 (mkF m 181 #[.val (.long q1), .second, .val (.long q2), .second, .val (.long q3), .second, .val (.int p4), .val (.int zs), .val (.int ze), .val (.int (((p4.toUInt32 >>> ((2 : Int32) &&& 31).toUInt32).toInt32) &&& (3 : Int32))), .val (.long (own_mn q1 q2)), .second, .val (.long (own_mx q1 q2)), .second, .val .null, .val (.ref b51), .val (.long tt), .second, .val (.ref b54), .val (.int (own_ge (own_mx q1 q2) tt)), .val (.int (1 : Int32))] []) (fun t k => XS.icmpNo X64.here hx rfl (hb hby at_178) rfl (XT.ii_ne_f hc67) k) ?_
              refine own_f T64 (mkF m 182 #[.val (.long q1), .second, .val (.long q2), .second, .val (.long q3), .second, .val (.int p4), .val (.int zs), .val (.int ze), .val (.int (((p4.toUInt32 >>> ((2 : Int32) &&& 31).toUInt32).toInt32) &&& (3 : Int32))), .val (.long (own_mn q1 q2)), .second, .val (.long (own_mx q1 q2)), .second, .val .null, .val (.ref b51), .val (.long tt), .second, .val (.ref b54), .val (.int (own_ge (own_mx q1 q2) tt)), .val (.int (1 : Int32))] [(.int (1 : Int32))]) (fun t k => XT.iconstV X64.here hx rfl (1 : Int32) (hb hby at_181) (by decide) k) ?_
              refine own_f T64 (mkF m 186 #[.val (.long q1), .second, .val (.long q2), .second, .val (.long q3), .second, .val (.int p4), .val (.int zs), .val (.int ze), .val (.int (((p4.toUInt32 >>> ((2 : Int32) &&& 31).toUInt32).toInt32) &&& (3 : Int32))), .val (.long (own_mn q1 q2)), .second, .val (.long (own_mx q1 q2)), .second, .val .null, .val (.ref b51), .val (.long tt), .second, .val (.ref b54), .val (.int (own_ge (own_mx q1 q2) tt)), .val (.int (1 : Int32))] [(.int (1 : Int32))]) (fun t k => XS.goto X64.here hx rfl (pc0 := 182) (pc' := 186) rfl (hb hby at_182) (by decide) (by decide) k) ?_
              obtain ⟨fs, hr, hrun, hended, hW, hsame⟩ := X64.leave (v := some (.int (1 : Int32))) (fun h => by rw [Bd.returns] at h; cases h)
              refine ⟨_, _, retN X64 hx (t := .boolean) Bd.returns (by simp) (hb hby at_186) hr, hrun, hended, _, _, rfl, ?_, ⟨_, rfl⟩, hW, hsame.mono (by decide) (by decide)⟩
              show Q0 Z q1 q2 q3 p4 h0 n0 _ T64.heap _
              rw [e64]
              exact ⟨rfl, N64⟩
          by_cases hc68 : (((p4.toUInt32 >>> ((2 : Int32) &&& 31).toUInt32).toInt32) &&& (3 : Int32)) = (1 : Int32)
          · skip
            refine own_f T51 (mkF m 92 #[.val (.long q1), .second, .val (.long q2), .second, .val (.long q3), .second, .val (.int p4), .val (.int zs), .val (.int ze), .val (.int (((p4.toUInt32 >>> ((2 : Int32) &&& 31).toUInt32).toInt32) &&& (3 : Int32))), .val (.long (own_mn q1 q2)), .second, .val (.long (own_mx q1 q2)), .second, .val .null, .val (.ref b51), .val (.long q3), .second, .unset, .unset, .unset] []) (fun t k => XS.icmpNo X51.here hx rfl (hb hby at_89) rfl (XT.ii_ne_f hc68) k) ?_
            refine own_f T51 (mkF m 94 #[.val (.long q1), .second, .val (.long q2), .second, .val (.long q3), .second, .val (.int p4), .val (.int zs), .val (.int ze), .val (.int (((p4.toUInt32 >>> ((2 : Int32) &&& 31).toUInt32).toInt32) &&& (3 : Int32))), .val (.long (own_mn q1 q2)), .second, .val (.long (own_mx q1 q2)), .second, .val .null, .val (.ref b51), .val (.long q3), .second, .unset, .unset, .unset] [(.long (own_mx q1 q2))]) (fun t k => XS.lload X51.here hx rfl (hb hby at_92) rfl k) ?_
            refine own_f T51 (mkF m 95 #[.val (.long q1), .second, .val (.long q2), .second, .val (.long q3), .second, .val (.int p4), .val (.int zs), .val (.int ze), .val (.int (((p4.toUInt32 >>> ((2 : Int32) &&& 31).toUInt32).toInt32) &&& (3 : Int32))), .val (.long (own_mn q1 q2)), .second, .val (.long (own_mx q1 q2)), .second, .val .null, .val (.ref b51), .val (.long q3), .second, .unset, .unset, .unset] [(.long (1 : Int64)), (.long (own_mx q1 q2))]) (fun t k => XT.lconstV X51.here hx rfl (1 : Int64) (hb hby at_94) (by decide) k) ?_
            refine own_f T51 (mkF m 96 #[.val (.long q1), .second, .val (.long q2), .second, .val (.long q3), .second, .val (.int p4), .val (.int zs), .val (.int ze), .val (.int (((p4.toUInt32 >>> ((2 : Int32) &&& 31).toUInt32).toInt32) &&& (3 : Int32))), .val (.long (own_mn q1 q2)), .second, .val (.long (own_mx q1 q2)), .second, .val .null, .val (.ref b51), .val (.long q3), .second, .unset, .unset, .unset] [(.long ((own_mx q1 q2) - (1 : Int64)))]) (fun t k => XS.lsub X51.here hx rfl (hb hby at_95) rfl k) ?_
            refine own_f T51 (mkF m 98 #[.val (.long q1), .second, .val (.long q2), .second, .val (.long q3), .second, .val (.int p4), .val (.int zs), .val (.int ze), .val (.int (((p4.toUInt32 >>> ((2 : Int32) &&& 31).toUInt32).toInt32) &&& (3 : Int32))), .val (.long (own_mn q1 q2)), .second, .val (.long (own_mx q1 q2)), .second, .val .null, .val (.ref b51), .val (.long ((own_mx q1 q2) - (1 : Int64))), .second, .unset, .unset, .unset] []) (fun t k => XS.lstore X51.here hx rfl (hb hby at_96) rfl (l' := #[.val (.long q1), .second, .val (.long q2), .second, .val (.long q3), .second, .val (.int p4), .val (.int zs), .val (.int ze), .val (.int (((p4.toUInt32 >>> ((2 : Int32) &&& 31).toUInt32).toInt32) &&& (3 : Int32))), .val (.long (own_mn q1 q2)), .second, .val (.long (own_mx q1 q2)), .second, .val .null, .val (.ref b51), .val (.long ((own_mx q1 q2) - (1 : Int64))), .second, .unset, .unset, .unset]) rfl k) ?_
            refine own_f T51 (mkF m 126 #[.val (.long q1), .second, .val (.long q2), .second, .val (.long q3), .second, .val (.int p4), .val (.int zs), .val (.int ze), .val (.int (((p4.toUInt32 >>> ((2 : Int32) &&& 31).toUInt32).toInt32) &&& (3 : Int32))), .val (.long (own_mn q1 q2)), .second, .val (.long (own_mx q1 q2)), .second, .val .null, .val (.ref b51), .val (.long ((own_mx q1 q2) - (1 : Int64))), .second, .unset, .unset, .unset] []) (fun t k => XS.goto X51.here hx rfl (pc0 := 98) (pc' := 126) rfl (hb hby at_98) (by decide) (by decide) k) ?_
            exact jn53 ((own_mx q1 q2) - (1 : Int64))
          · skip
            refine own_f T51 (mkF m 101 #[.val (.long q1), .second, .val (.long q2), .second, .val (.long q3), .second, .val (.int p4), .val (.int zs), .val (.int ze), .val (.int (((p4.toUInt32 >>> ((2 : Int32) &&& 31).toUInt32).toInt32) &&& (3 : Int32))), .val (.long (own_mn q1 q2)), .second, .val (.long (own_mx q1 q2)), .second, .val .null, .val (.ref b51), .val (.long q3), .second, .unset, .unset, .unset] []) (fun t k => XS.icmpYes X51.here hx rfl (pc0 := 89) (pc' := 101) rfl (hb hby at_89) rfl (XT.ii_ne_t hc68) (by decide) (by decide) k) ?_
            refine own_f T51 (mkF m 103 #[.val (.long q1), .second, .val (.long q2), .second, .val (.long q3), .second, .val (.int p4), .val (.int zs), .val (.int ze), .val (.int (((p4.toUInt32 >>> ((2 : Int32) &&& 31).toUInt32).toInt32) &&& (3 : Int32))), .val (.long (own_mn q1 q2)), .second, .val (.long (own_mx q1 q2)), .second, .val .null, .val (.ref b51), .val (.long q3), .second, .unset, .unset, .unset] [(.int (((p4.toUInt32 >>> ((2 : Int32) &&& 31).toUInt32).toInt32) &&& (3 : Int32)))]) (fun t k => XS.iload X51.here hx rfl (hb hby at_101) rfl k) ?_
            refine own_f T51 (mkF m 104 #[.val (.long q1), .second, .val (.long q2), .second, .val (.long q3), .second, .val (.int p4), .val (.int zs), .val (.int ze), .val (.int (((p4.toUInt32 >>> ((2 : Int32) &&& 31).toUInt32).toInt32) &&& (3 : Int32))), .val (.long (own_mn q1 q2)), .second, .val (.long (own_mx q1 q2)), .second, .val .null, .val (.ref b51), .val (.long q3), .second, .unset, .unset, .unset] [(.int (2 : Int32)), (.int (((p4.toUInt32 >>> ((2 : Int32) &&& 31).toUInt32).toInt32) &&& (3 : Int32)))]) (fun t k => XT.iconstV X51.here hx rfl (2 : Int32) (hb hby at_103) (by decide) k) ?_
            by_cases hc69 : (((p4.toUInt32 >>> ((2 : Int32) &&& 31).toUInt32).toInt32) &&& (3 : Int32)) = (2 : Int32)
            · skip
              refine own_f T51 (mkF m 107 #[.val (.long q1), .second, .val (.long q2), .second, .val (.long q3), .second, .val (.int p4), .val (.int zs), .val (.int ze), .val (.int (((p4.toUInt32 >>> ((2 : Int32) &&& 31).toUInt32).toInt32) &&& (3 : Int32))), .val (.long (own_mn q1 q2)), .second, .val (.long (own_mx q1 q2)), .second, .val .null, .val (.ref b51), .val (.long q3), .second, .unset, .unset, .unset] []) (fun t k => XS.icmpNo X51.here hx rfl (hb hby at_104) rfl (XT.ii_ne_f hc69) k) ?_
              refine own_f T51 (mkF m 109 #[.val (.long q1), .second, .val (.long q2), .second, .val (.long q3), .second, .val (.int p4), .val (.int zs), .val (.int ze), .val (.int (((p4.toUInt32 >>> ((2 : Int32) &&& 31).toUInt32).toInt32) &&& (3 : Int32))), .val (.long (own_mn q1 q2)), .second, .val (.long (own_mx q1 q2)), .second, .val .null, .val (.ref b51), .val (.long q3), .second, .unset, .unset, .unset] [(.long (own_mx q1 q2))]) (fun t k => XS.lload X51.here hx rfl (hb hby at_107) rfl k) ?_
              refine own_f T51 (mkF m 111 #[.val (.long q1), .second, .val (.long q2), .second, .val (.long q3), .second, .val (.int p4), .val (.int zs), .val (.int ze), .val (.int (((p4.toUInt32 >>> ((2 : Int32) &&& 31).toUInt32).toInt32) &&& (3 : Int32))), .val (.long (own_mn q1 q2)), .second, .val (.long (own_mx q1 q2)), .second, .val .null, .val (.ref b51), .val (.long (own_mx q1 q2)), .second, .unset, .unset, .unset] []) (fun t k => XS.lstore X51.here hx rfl (hb hby at_109) rfl (l' := #[.val (.long q1), .second, .val (.long q2), .second, .val (.long q3), .second, .val (.int p4), .val (.int zs), .val (.int ze), .val (.int (((p4.toUInt32 >>> ((2 : Int32) &&& 31).toUInt32).toInt32) &&& (3 : Int32))), .val (.long (own_mn q1 q2)), .second, .val (.long (own_mx q1 q2)), .second, .val .null, .val (.ref b51), .val (.long (own_mx q1 q2)), .second, .unset, .unset, .unset]) rfl k) ?_
              refine own_f T51 (mkF m 126 #[.val (.long q1), .second, .val (.long q2), .second, .val (.long q3), .second, .val (.int p4), .val (.int zs), .val (.int ze), .val (.int (((p4.toUInt32 >>> ((2 : Int32) &&& 31).toUInt32).toInt32) &&& (3 : Int32))), .val (.long (own_mn q1 q2)), .second, .val (.long (own_mx q1 q2)), .second, .val .null, .val (.ref b51), .val (.long (own_mx q1 q2)), .second, .unset, .unset, .unset] []) (fun t k => XS.goto X51.here hx rfl (pc0 := 111) (pc' := 126) rfl (hb hby at_111) (by decide) (by decide) k) ?_
              exact jn53 (own_mx q1 q2)
            · skip
              refine own_f T51 (mkF m 114 #[.val (.long q1), .second, .val (.long q2), .second, .val (.long q3), .second, .val (.int p4), .val (.int zs), .val (.int ze), .val (.int (((p4.toUInt32 >>> ((2 : Int32) &&& 31).toUInt32).toInt32) &&& (3 : Int32))), .val (.long (own_mn q1 q2)), .second, .val (.long (own_mx q1 q2)), .second, .val .null, .val (.ref b51), .val (.long q3), .second, .unset, .unset, .unset] []) (fun t k => XS.icmpYes X51.here hx rfl (pc0 := 104) (pc' := 114) rfl (hb hby at_104) rfl (XT.ii_ne_t hc69) (by decide) (by decide) k) ?_
              refine own_f T51 (mkF m 116 #[.val (.long q1), .second, .val (.long q2), .second, .val (.long q3), .second, .val (.int p4), .val (.int zs), .val (.int ze), .val (.int (((p4.toUInt32 >>> ((2 : Int32) &&& 31).toUInt32).toInt32) &&& (3 : Int32))), .val (.long (own_mn q1 q2)), .second, .val (.long (own_mx q1 q2)), .second, .val .null, .val (.ref b51), .val (.long q3), .second, .unset, .unset, .unset] [(.int (((p4.toUInt32 >>> ((2 : Int32) &&& 31).toUInt32).toInt32) &&& (3 : Int32)))]) (fun t k => XS.iload X51.here hx rfl (hb hby at_114) rfl k) ?_
              refine own_f T51 (mkF m 117 #[.val (.long q1), .second, .val (.long q2), .second, .val (.long q3), .second, .val (.int p4), .val (.int zs), .val (.int ze), .val (.int (((p4.toUInt32 >>> ((2 : Int32) &&& 31).toUInt32).toInt32) &&& (3 : Int32))), .val (.long (own_mn q1 q2)), .second, .val (.long (own_mx q1 q2)), .second, .val .null, .val (.ref b51), .val (.long q3), .second, .unset, .unset, .unset] [(.int (3 : Int32)), (.int (((p4.toUInt32 >>> ((2 : Int32) &&& 31).toUInt32).toInt32) &&& (3 : Int32)))]) (fun t k => XT.iconstV X51.here hx rfl (3 : Int32) (hb hby at_116) (by decide) k) ?_
              by_cases hc70 : (((p4.toUInt32 >>> ((2 : Int32) &&& 31).toUInt32).toInt32) &&& (3 : Int32)) = (3 : Int32)
              · skip
                refine own_f T51 (mkF m 120 #[.val (.long q1), .second, .val (.long q2), .second, .val (.long q3), .second, .val (.int p4), .val (.int zs), .val (.int ze), .val (.int (((p4.toUInt32 >>> ((2 : Int32) &&& 31).toUInt32).toInt32) &&& (3 : Int32))), .val (.long (own_mn q1 q2)), .second, .val (.long (own_mx q1 q2)), .second, .val .null, .val (.ref b51), .val (.long q3), .second, .unset, .unset, .unset] []) (fun t k => XS.icmpNo X51.here hx rfl (hb hby at_117) rfl (XT.ii_ne_f hc70) k) ?_
                refine own_f T51 (mkF m 122 #[.val (.long q1), .second, .val (.long q2), .second, .val (.long q3), .second, .val (.int p4), .val (.int zs), .val (.int ze), .val (.int (((p4.toUInt32 >>> ((2 : Int32) &&& 31).toUInt32).toInt32) &&& (3 : Int32))), .val (.long (own_mn q1 q2)), .second, .val (.long (own_mx q1 q2)), .second, .val .null, .val (.ref b51), .val (.long q3), .second, .unset, .unset, .unset] [(.long (own_mx q1 q2))]) (fun t k => XS.lload X51.here hx rfl (hb hby at_120) rfl k) ?_
                refine own_f T51 (mkF m 123 #[.val (.long q1), .second, .val (.long q2), .second, .val (.long q3), .second, .val (.int p4), .val (.int zs), .val (.int ze), .val (.int (((p4.toUInt32 >>> ((2 : Int32) &&& 31).toUInt32).toInt32) &&& (3 : Int32))), .val (.long (own_mn q1 q2)), .second, .val (.long (own_mx q1 q2)), .second, .val .null, .val (.ref b51), .val (.long q3), .second, .unset, .unset, .unset] [(.long (1 : Int64)), (.long (own_mx q1 q2))]) (fun t k => XT.lconstV X51.here hx rfl (1 : Int64) (hb hby at_122) (by decide) k) ?_
                refine own_f T51 (mkF m 124 #[.val (.long q1), .second, .val (.long q2), .second, .val (.long q3), .second, .val (.int p4), .val (.int zs), .val (.int ze), .val (.int (((p4.toUInt32 >>> ((2 : Int32) &&& 31).toUInt32).toInt32) &&& (3 : Int32))), .val (.long (own_mn q1 q2)), .second, .val (.long (own_mx q1 q2)), .second, .val .null, .val (.ref b51), .val (.long q3), .second, .unset, .unset, .unset] [(.long ((own_mx q1 q2) + (1 : Int64)))]) (fun t k => XS.ladd X51.here hx rfl (hb hby at_123) rfl k) ?_
                refine own_f T51 (mkF m 126 #[.val (.long q1), .second, .val (.long q2), .second, .val (.long q3), .second, .val (.int p4), .val (.int zs), .val (.int ze), .val (.int (((p4.toUInt32 >>> ((2 : Int32) &&& 31).toUInt32).toInt32) &&& (3 : Int32))), .val (.long (own_mn q1 q2)), .second, .val (.long (own_mx q1 q2)), .second, .val .null, .val (.ref b51), .val (.long ((own_mx q1 q2) + (1 : Int64))), .second, .unset, .unset, .unset] []) (fun t k => XS.lstore X51.here hx rfl (hb hby at_124) rfl (l' := #[.val (.long q1), .second, .val (.long q2), .second, .val (.long q3), .second, .val (.int p4), .val (.int zs), .val (.int ze), .val (.int (((p4.toUInt32 >>> ((2 : Int32) &&& 31).toUInt32).toInt32) &&& (3 : Int32))), .val (.long (own_mn q1 q2)), .second, .val (.long (own_mx q1 q2)), .second, .val .null, .val (.ref b51), .val (.long ((own_mx q1 q2) + (1 : Int64))), .second, .unset, .unset, .unset]) rfl k) ?_
                exact jn53 ((own_mx q1 q2) + (1 : Int64))
              · skip
                refine own_f T51 (mkF m 126 #[.val (.long q1), .second, .val (.long q2), .second, .val (.long q3), .second, .val (.int p4), .val (.int zs), .val (.int ze), .val (.int (((p4.toUInt32 >>> ((2 : Int32) &&& 31).toUInt32).toInt32) &&& (3 : Int32))), .val (.long (own_mn q1 q2)), .second, .val (.long (own_mx q1 q2)), .second, .val .null, .val (.ref b51), .val (.long q3), .second, .unset, .unset, .unset] []) (fun t k => XS.icmpYes X51.here hx rfl (pc0 := 117) (pc' := 126) rfl (hb hby at_117) rfl (XT.ii_ne_t hc70) (by decide) (by decide) k) ?_
                exact jn53 q3
        · skip
          refine own_f T4 (mkF m 71 #[.val (.long q1), .second, .val (.long q2), .second, .val (.long q3), .second, .val (.int p4), .val (.int zs), .val (.int ze), .val (.int (((p4.toUInt32 >>> ((2 : Int32) &&& 31).toUInt32).toInt32) &&& (3 : Int32))), .val (.long (own_mn q1 q2)), .second, .val (.long (own_mx q1 q2)), .second, .val .null, .unset, .unset, .unset, .unset, .unset, .unset] []) (fun t k => XS.ifNo X4.here hx rfl (hb hby at_68) rfl (XT.i0_eq_f hc50) k) ?_
          refine own_f T4 (mkF m 72 #[.val (.long q1), .second, .val (.long q2), .second, .val (.long q3), .second, .val (.int p4), .val (.int zs), .val (.int ze), .val (.int (((p4.toUInt32 >>> ((2 : Int32) &&& 31).toUInt32).toInt32) &&& (3 : Int32))), .val (.long (own_mn q1 q2)), .second, .val (.long (own_mx q1 q2)), .second, .val .null, .unset, .unset, .unset, .unset, .unset, .unset] [.null]) (fun t k => XS.aconstNull X4.here hx rfl (hb hby at_71) k) ?_
          refine own_f T4 (mkF m 80 #[.val (.long q1), .second, .val (.long q2), .second, .val (.long q3), .second, .val (.int p4), .val (.int zs), .val (.int ze), .val (.int (((p4.toUInt32 >>> ((2 : Int32) &&& 31).toUInt32).toInt32) &&& (3 : Int32))), .val (.long (own_mn q1 q2)), .second, .val (.long (own_mx q1 q2)), .second, .val .null, .unset, .unset, .unset, .unset, .unset, .unset] [.null]) (fun t k => XS.goto X4.here hx rfl (pc0 := 72) (pc' := 80) rfl (hb hby at_72) (by decide) (by decide) k) ?_
          refine own_f T4 (mkF m 82 #[.val (.long q1), .second, .val (.long q2), .second, .val (.long q3), .second, .val (.int p4), .val (.int zs), .val (.int ze), .val (.int (((p4.toUInt32 >>> ((2 : Int32) &&& 31).toUInt32).toInt32) &&& (3 : Int32))), .val (.long (own_mn q1 q2)), .second, .val (.long (own_mx q1 q2)), .second, .val .null, .val .null, .unset, .unset, .unset, .unset, .unset] []) (fun t k => XS.astore X4.here hx rfl (hb hby at_80) rfl rfl (l' := #[.val (.long q1), .second, .val (.long q2), .second, .val (.long q3), .second, .val (.int p4), .val (.int zs), .val (.int ze), .val (.int (((p4.toUInt32 >>> ((2 : Int32) &&& 31).toUInt32).toInt32) &&& (3 : Int32))), .val (.long (own_mn q1 q2)), .second, .val (.long (own_mx q1 q2)), .second, .val .null, .val .null, .unset, .unset, .unset, .unset, .unset]) rfl k) ?_
          refine own_f T4 (mkF m 84 #[.val (.long q1), .second, .val (.long q2), .second, .val (.long q3), .second, .val (.int p4), .val (.int zs), .val (.int ze), .val (.int (((p4.toUInt32 >>> ((2 : Int32) &&& 31).toUInt32).toInt32) &&& (3 : Int32))), .val (.long (own_mn q1 q2)), .second, .val (.long (own_mx q1 q2)), .second, .val .null, .val .null, .unset, .unset, .unset, .unset, .unset] [(.long q3)]) (fun t k => XS.lload X4.here hx rfl (hb hby at_82) rfl k) ?_
          refine own_f T4 (mkF m 86 #[.val (.long q1), .second, .val (.long q2), .second, .val (.long q3), .second, .val (.int p4), .val (.int zs), .val (.int ze), .val (.int (((p4.toUInt32 >>> ((2 : Int32) &&& 31).toUInt32).toInt32) &&& (3 : Int32))), .val (.long (own_mn q1 q2)), .second, .val (.long (own_mx q1 q2)), .second, .val .null, .val .null, .val (.long q3), .second, .unset, .unset, .unset] []) (fun t k => XS.lstore X4.here hx rfl (hb hby at_84) rfl (l' := #[.val (.long q1), .second, .val (.long q2), .second, .val (.long q3), .second, .val (.int p4), .val (.int zs), .val (.int ze), .val (.int (((p4.toUInt32 >>> ((2 : Int32) &&& 31).toUInt32).toInt32) &&& (3 : Int32))), .val (.long (own_mn q1 q2)), .second, .val (.long (own_mx q1 q2)), .second, .val .null, .val .null, .val (.long q3), .second, .unset, .unset, .unset]) rfl k) ?_
          refine own_f T4 (mkF m 88 #[.val (.long q1), .second, .val (.long q2), .second, .val (.long q3), .second, .val (.int p4), .val (.int zs), .val (.int ze), .val (.int (((p4.toUInt32 >>> ((2 : Int32) &&& 31).toUInt32).toInt32) &&& (3 : Int32))), .val (.long (own_mn q1 q2)), .second, .val (.long (own_mx q1 q2)), .second, .val .null, .val .null, .val (.long q3), .second, .unset, .unset, .unset] [(.int (((p4.toUInt32 >>> ((2 : Int32) &&& 31).toUInt32).toInt32) &&& (3 : Int32)))]) (fun t k => XS.iload X4.here hx rfl (hb hby at_86) rfl k) ?_
          refine own_f T4 (mkF m 89 #[.val (.long q1), .second, .val (.long q2), .second, .val (.long q3), .second, .val (.int p4), .val (.int zs), .val (.int ze), .val (.int (((p4.toUInt32 >>> ((2 : Int32) &&& 31).toUInt32).toInt32) &&& (3 : Int32))), .val (.long (own_mn q1 q2)), .second, .val (.long (own_mx q1 q2)), .second, .val .null, .val .null, .val (.long q3), .second, .unset, .unset, .unset] [(.int (1 : Int32)), (.int (((p4.toUInt32 >>> ((2 : Int32) &&& 31).toUInt32).toInt32) &&& (3 : Int32)))]) (fun t k => XT.iconstV X4.here hx rfl (1 : Int32) (hb hby at_88) (by decide) k) ?_
          have jn71 : ∀ (tt : Int64), own_R p.tables e below (own_P s (Q0 Z q1 q2 q3 p4 h0 n0) room_1.cells room_1.slots) (T4.setTop (mkF m 126 #[.val (.long q1), .second, .val (.long q2), .second, .val (.long q3), .second, .val (.int p4), .val (.int zs), .val (.int ze), .val (.int (((p4.toUInt32 >>> ((2 : Int32) &&& 31).toUInt32).toInt32) &&& (3 : Int32))), .val (.long (own_mn q1 q2)), .second, .val (.long (own_mx q1 q2)), .second, .val .null, .val .null, .val (.long tt), .second, .unset, .unset, .unset] [])) := by
            intro tt
            obtain ⟨T72, h72, X72, e72, E72, A72, D72, U72, st72⟩ := newO X4 hx hZ hown (own_w hw 15 rfl) (own_w hw 16 rfl) (own_w hw 17 rfl) e4 (g := (mkF m 126 #[.val (.long q1), .second, .val (.long q2), .second, .val (.long q3), .second, .val (.int p4), .val (.int zs), .val (.int ze), .val (.int (((p4.toUInt32 >>> ((2 : Int32) &&& 31).toUInt32).toInt32) &&& (3 : Int32))), .val (.long (own_mn q1 q2)), .second, .val (.long (own_mx q1 q2)), .second, .val .null, .val .null, .val (.long tt), .second, .unset, .unset, .unset] [])) rfl (hb hby at_126) (by decide) (by decide)
            obtain ⟨b72, g72⟩ : ∃ z, z = h0.size := ⟨_, rfl⟩
            rw [← g72] at A72 D72 st72
            have ge72 : n0 ≤ b72 := by rw [g72]; exact Z0
            have Zs72 : n0 ≤ h72.size := Nat.le_trans Z0 E72.1
            have F_73 := F0.ext E72
            have F_74 : Fld Z h72 b72 "com/example/reading_buckets/readingbuckets/TimeRange" "from" "Ljava/lang/Long;" .null := D72 (Or.inr (own_w hw 30 rfl)) (ty := (.object "java/lang/Long")) (by decide)
            have F_75 : Fld Z h72 b72 "com/example/reading_buckets/readingbuckets/TimeRange" "to" "Ljava/lang/Long;" .null := D72 (Or.inr (own_w hw 32 rfl)) (ty := (.object "java/lang/Long")) (by decide)
            refine own_f T72 (mkF m 129 #[.val (.long q1), .second, .val (.long q2), .second, .val (.long q3), .second, .val (.int p4), .val (.int zs), .val (.int ze), .val (.int (((p4.toUInt32 >>> ((2 : Int32) &&& 31).toUInt32).toInt32) &&& (3 : Int32))), .val (.long (own_mn q1 q2)), .second, .val (.long (own_mx q1 q2)), .second, .val .null, .val .null, .val (.long tt), .second, .unset, .unset, .unset] [(.ref b72)]) st72 ?_
            refine own_f T72 (mkF m 130 #[.val (.long q1), .second, .val (.long q2), .second, .val (.long q3), .second, .val (.int p4), .val (.int zs), .val (.int ze), .val (.int (((p4.toUInt32 >>> ((2 : Int32) &&& 31).toUInt32).toInt32) &&& (3 : Int32))), .val (.long (own_mn q1 q2)), .second, .val (.long (own_mx q1 q2)), .second, .val .null, .val .null, .val (.long tt), .second, .unset, .unset, .unset] [(.ref b72), (.ref b72)]) (fun t k => XS.dup X72.here hx rfl (hb hby at_129) rfl rfl k) ?_
            refine own_f T72 (mkF m 132 #[.val (.long q1), .second, .val (.long q2), .second, .val (.long q3), .second, .val (.int p4), .val (.int zs), .val (.int ze), .val (.int (((p4.toUInt32 >>> ((2 : Int32) &&& 31).toUInt32).toInt32) &&& (3 : Int32))), .val (.long (own_mn q1 q2)), .second, .val (.long (own_mx q1 q2)), .second, .val .null, .val .null, .val (.long tt), .second, .unset, .unset, .unset] [.null, (.ref b72), (.ref b72)]) (fun t k => XS.aload X72.here hx rfl (hb hby at_130) rfl rfl k) ?_
            refine own_f T72 (mkF m 134 #[.val (.long q1), .second, .val (.long q2), .second, .val (.long q3), .second, .val (.int p4), .val (.int zs), .val (.int ze), .val (.int (((p4.toUInt32 >>> ((2 : Int32) &&& 31).toUInt32).toInt32) &&& (3 : Int32))), .val (.long (own_mn q1 q2)), .second, .val (.long (own_mx q1 q2)), .second, .val .null, .val .null, .val (.long tt), .second, .unset, .unset, .unset] [.null, .null, (.ref b72), (.ref b72)]) (fun t k => XS.aload X72.here hx rfl (hb hby at_132) rfl rfl k) ?_
            obtain ⟨_, _, ⟨T76, Lq76, kq_76, nq_76⟩, -, X76, ⟨Lc76, hQ76, lq76, yq76, zq76⟩, st76⟩ := X72.specialBack hx (y := (⟨"com/example/reading_buckets/readingbuckets/TimeRange", "<init>", "(Ljava/lang/Long;Ljava/lang/Long;)V"⟩ : MethodName)) rfl hown (mvT hZ (own_w hw 18 rfl)) (mvT hZ (own_w hw 19 rfl)) (mvT hZ (own_w hw 20 rfl)) (by decide) (backOf (W := 1) (rm900 l Z a0 hw [] b72 _ _ h72 n0 Zs72 A72 F_74 F_75 ge72) hZ (own_w hw 20 rfl) (own_w hw 17 rfl) (by decide) (by decide)) (g := (mkF m 134 #[.val (.long q1), .second, .val (.long q2), .second, .val (.long q3), .second, .val (.int p4), .val (.int zs), .val (.int ze), .val (.int (((p4.toUInt32 >>> ((2 : Int32) &&& 31).toUInt32).toInt32) &&& (3 : Int32))), .val (.long (own_mn q1 q2)), .second, .val (.long (own_mx q1 q2)), .second, .val .null, .val .null, .val (.long tt), .second, .unset, .unset, .unset] [.null, .null, (.ref b72), (.ref b72)])) rfl (by rw [hml]; rfl) (Steps.refl _) (a := b72) (argsL := [.null, .null]) (rest := [(.ref b72)]) (lenOf pd__Ljava_lang_Long_Ljava_lang_Long_V rfl) rfl (by show 2 * 0 + _ ≤ _; exact Nat.le_of_eq rfl) (hb hby at_134) (fun _ _ => ⟨rfl, e72, (by decide : 0 + 0 + 0 + 1 + 0 ≤ _), (by decide : 0 + 0 + 0 + 2 + 0 ≤ _)⟩)
            dsimp only [Pt.U, Pt.locs, Pt.cells, Pt.slots] at X76 lq76 yq76 zq76 st76 hQ76
            subst lq76 yq76 zq76
            obtain ⟨h76, e76⟩ : ∃ z, T76.heap = z := ⟨_, rfl⟩
            rw [e76] at hQ76
            unfold Q900 at hQ76
            obtain ⟨rfl, Nq76, qh76, G76_0, G76_1⟩ := hQ76
            have N76 := Fr.app N4 Nq76
            have Zs76 : n0 ≤ h76.size := Nat.le_trans Zs72 qh76.1
            have F_77 := F_73.keep qh76 (allS ge72 all0)
            refine own_g T76 (mkF m 137 #[.val (.long q1), .second, .val (.long q2), .second, .val (.long q3), .second, .val (.int p4), .val (.int zs), .val (.int ze), .val (.int (((p4.toUInt32 >>> ((2 : Int32) &&& 31).toUInt32).toInt32) &&& (3 : Int32))), .val (.long (own_mn q1 q2)), .second, .val (.long (own_mx q1 q2)), .second, .val .null, .val .null, .val (.long tt), .second, .unset, .unset, .unset] [(.ref b72)]) st76 ?_
            refine own_f T76 (mkF m 139 #[.val (.long q1), .second, .val (.long q2), .second, .val (.long q3), .second, .val (.int p4), .val (.int zs), .val (.int ze), .val (.int (((p4.toUInt32 >>> ((2 : Int32) &&& 31).toUInt32).toInt32) &&& (3 : Int32))), .val (.long (own_mn q1 q2)), .second, .val (.long (own_mx q1 q2)), .second, .val .null, .val .null, .val (.long tt), .second, .val (.ref b72), .unset, .unset] []) (fun t k => XS.astore X76.here hx rfl (hb hby at_137) rfl rfl (l' := #[.val (.long q1), .second, .val (.long q2), .second, .val (.long q3), .second, .val (.int p4), .val (.int zs), .val (.int ze), .val (.int (((p4.toUInt32 >>> ((2 : Int32) &&& 31).toUInt32).toInt32) &&& (3 : Int32))), .val (.long (own_mn q1 q2)), .second, .val (.long (own_mx q1 q2)), .second, .val .null, .val .null, .val (.long tt), .second, .val (.ref b72), .unset, .unset]) rfl k) ?_
            refine own_f T76 (mkF m 141 #[.val (.long q1), .second, .val (.long q2), .second, .val (.long q3), .second, .val (.int p4), .val (.int zs), .val (.int ze), .val (.int (((p4.toUInt32 >>> ((2 : Int32) &&& 31).toUInt32).toInt32) &&& (3 : Int32))), .val (.long (own_mn q1 q2)), .second, .val (.long (own_mx q1 q2)), .second, .val .null, .val .null, .val (.long tt), .second, .val (.ref b72), .unset, .unset] [(.ref b72)]) (fun t k => XS.aload X76.here hx rfl (hb hby at_139) rfl rfl k) ?_
            refine own_f T76 (mkF m 143 #[.val (.long q1), .second, .val (.long q2), .second, .val (.long q3), .second, .val (.int p4), .val (.int zs), .val (.int ze), .val (.int (((p4.toUInt32 >>> ((2 : Int32) &&& 31).toUInt32).toInt32) &&& (3 : Int32))), .val (.long (own_mn q1 q2)), .second, .val (.long (own_mx q1 q2)), .second, .val .null, .val .null, .val (.long tt), .second, .val (.ref b72), .unset, .unset] [(.long tt), (.ref b72)]) (fun t k => XS.lload X76.here hx rfl (hb hby at_141) rfl k) ?_
            obtain ⟨cq78, kq78, qa78, qb78, qc78⟩ := isOf hZ e76 G76_0
            obtain ⟨_, _, ⟨T78, Lq78, kq_78, nq_78⟩, -, X78, ⟨Lc78, hQ78, lq78, yq78, zq78⟩, st78⟩ := X76.virtualBack hx (y := (⟨"com/example/reading_buckets/readingbuckets/TimeRange", "endsAtOrBefore", "(J)Z"⟩ : MethodName)) (z := (⟨"com/example/reading_buckets/readingbuckets/TimeRange", "endsAtOrBefore", "(J)Z"⟩ : MethodName)) hown (mvT hZ (own_w hw 33 rfl)) (mvT hZ (own_w hw 34 rfl)) (notFace_of_selects (args := #[]) (mvT hZ (own_w hw 36 rfl))) (mvT hZ (own_w hw 36 rfl)) (mvT hZ (own_w hw 35 rfl)) (by decide) (backOf (W := 0) (rma0 l Z a0 hw [] b72 tt h76 n0 Zs76 G76_1) hZ (own_w hw 37 rfl) (own_w hw 17 rfl) (by decide) (by decide)) qa78 qc78 (g := (mkF m 143 #[.val (.long q1), .second, .val (.long q2), .second, .val (.long q3), .second, .val (.int p4), .val (.int zs), .val (.int ze), .val (.int (((p4.toUInt32 >>> ((2 : Int32) &&& 31).toUInt32).toInt32) &&& (3 : Int32))), .val (.long (own_mn q1 q2)), .second, .val (.long (own_mx q1 q2)), .second, .val .null, .val .null, .val (.long tt), .second, .val (.ref b72), .unset, .unset] [(.long tt), (.ref b72)])) rfl (by rw [hml]; rfl) (Steps.refl _) (argsL := [(.long tt)]) (rest := []) (lenOf pd__J_Z rfl) rfl (by show 2 * 0 + _ ≤ _; exact Nat.le_of_eq rfl) (hb hby at_143) (fun _ _ => ⟨rfl, e76, (by decide : 0 + 0 + 0 + 1 + 0 + 0 ≤ _), (by decide : 0 + 0 + 0 + 2 + 0 + 0 ≤ _)⟩)
            dsimp only [Pt.U, Pt.locs, Pt.cells, Pt.slots] at X78 lq78 yq78 zq78 st78 hQ78
            subst lq78 yq78 zq78
            obtain ⟨h78, e78⟩ : ∃ z, T78.heap = z := ⟨_, rfl⟩
            rw [e78] at hQ78
            unfold Qa0 at hQ78
            obtain ⟨rfl, Nq78, qh78⟩ := hQ78
            have N78 := Fr.app N76 Nq78
            rw [qh78] at e78
            refine own_g T78 (mkF m 146 #[.val (.long q1), .second, .val (.long q2), .second, .val (.long q3), .second, .val (.int p4), .val (.int zs), .val (.int ze), .val (.int (((p4.toUInt32 >>> ((2 : Int32) &&& 31).toUInt32).toInt32) &&& (3 : Int32))), .val (.long (own_mn q1 q2)), .second, .val (.long (own_mx q1 q2)), .second, .val .null, .val .null, .val (.long tt), .second, .val (.ref b72), .unset, .unset] [(.int (0 : Int32))]) st78 ?_
            refine own_f T78 (mkF m 148 #[.val (.long q1), .second, .val (.long q2), .second, .val (.long q3), .second, .val (.int p4), .val (.int zs), .val (.int ze), .val (.int (((p4.toUInt32 >>> ((2 : Int32) &&& 31).toUInt32).toInt32) &&& (3 : Int32))), .val (.long (own_mn q1 q2)), .second, .val (.long (own_mx q1 q2)), .second, .val .null, .val .null, .val (.long tt), .second, .val (.ref b72), .val (.int (0 : Int32)), .unset] []) (fun t k => XS.istore X78.here hx rfl (hb hby at_146) rfl (l' := #[.val (.long q1), .second, .val (.long q2), .second, .val (.long q3), .second, .val (.int p4), .val (.int zs), .val (.int ze), .val (.int (((p4.toUInt32 >>> ((2 : Int32) &&& 31).toUInt32).toInt32) &&& (3 : Int32))), .val (.long (own_mn q1 q2)), .second, .val (.long (own_mx q1 q2)), .second, .val .null, .val .null, .val (.long tt), .second, .val (.ref b72), .val (.int (0 : Int32)), .unset]) rfl k) ?_
            refine own_f T78 (mkF m 150 #[.val (.long q1), .second, .val (.long q2), .second, .val (.long q3), .second, .val (.int p4), .val (.int zs), .val (.int ze), .val (.int (((p4.toUInt32 >>> ((2 : Int32) &&& 31).toUInt32).toInt32) &&& (3 : Int32))), .val (.long (own_mn q1 q2)), .second, .val (.long (own_mx q1 q2)), .second, .val .null, .val .null, .val (.long tt), .second, .val (.ref b72), .val (.int (0 : Int32)), .unset] [(.int ze)]) (fun t k => XS.iload X78.here hx rfl (hb hby at_148) rfl k) ?_
            refine own_f T78 (mkF m 153 #[.val (.long q1), .second, .val (.long q2), .second, .val (.long q3), .second, .val (.int p4), .val (.int zs), .val (.int ze), .val (.int (((p4.toUInt32 >>> ((2 : Int32) &&& 31).toUInt32).toInt32) &&& (3 : Int32))), .val (.long (own_mn q1 q2)), .second, .val (.long (own_mx q1 q2)), .second, .val .null, .val .null, .val (.long tt), .second, .val (.ref b72), .val (.int (0 : Int32)), .unset] []) (fun t k => XS.ifNo X78.here hx rfl (hb hby at_150) rfl (XT.i0_eq_f hc50) k) ?_
            refine own_f T78 (mkF m 154 #[.val (.long q1), .second, .val (.long q2), .second, .val (.long q3), .second, .val (.int p4), .val (.int zs), .val (.int ze), .val (.int (((p4.toUInt32 >>> ((2 : Int32) &&& 31).toUInt32).toInt32) &&& (3 : Int32))), .val (.long (own_mn q1 q2)), .second, .val (.long (own_mx q1 q2)), .second, .val .null, .val .null, .val (.long tt), .second, .val (.ref b72), .val (.int (0 : Int32)), .unset] [(.int (0 : Int32))]) (fun t k => XT.iconstV X78.here hx rfl (0 : Int32) (hb hby at_153) (by decide) k) ?_
            refine own_f T78 (mkF m 156 #[.val (.long q1), .second, .val (.long q2), .second, .val (.long q3), .second, .val (.int p4), .val (.int zs), .val (.int ze), .val (.int (((p4.toUInt32 >>> ((2 : Int32) &&& 31).toUInt32).toInt32) &&& (3 : Int32))), .val (.long (own_mn q1 q2)), .second, .val (.long (own_mx q1 q2)), .second, .val .null, .val .null, .val (.long tt), .second, .val (.ref b72), .val (.int (0 : Int32)), .val (.int (0 : Int32))] []) (fun t k => XS.istore X78.here hx rfl (hb hby at_154) rfl (l' := #[.val (.long q1), .second, .val (.long q2), .second, .val (.long q3), .second, .val (.int p4), .val (.int zs), .val (.int ze), .val (.int (((p4.toUInt32 >>> ((2 : Int32) &&& 31).toUInt32).toInt32) &&& (3 : Int32))), .val (.long (own_mn q1 q2)), .second, .val (.long (own_mx q1 q2)), .second, .val .null, .val .null, .val (.long tt), .second, .val (.ref b72), .val (.int (0 : Int32)), .val (.int (0 : Int32))]) rfl k) ?_
            refine own_f T78 (mkF m 174 #[.val (.long q1), .second, .val (.long q2), .second, .val (.long q3), .second, .val (.int p4), .val (.int zs), .val (.int ze), .val (.int (((p4.toUInt32 >>> ((2 : Int32) &&& 31).toUInt32).toInt32) &&& (3 : Int32))), .val (.long (own_mn q1 q2)), .second, .val (.long (own_mx q1 q2)), .second, .val .null, .val .null, .val (.long tt), .second, .val (.ref b72), .val (.int (0 : Int32)), .val (.int (0 : Int32))] []) (fun t k => XS.goto X78.here hx rfl (pc0 := 156) (pc' := 174) rfl (hb hby at_156) (by decide) (by decide) k) ?_
            refine own_f T78 (mkF m 176 #[.val (.long q1), .second, .val (.long q2), .second, .val (.long q3), .second, .val (.int p4), .val (.int zs), .val (.int ze), .val (.int (((p4.toUInt32 >>> ((2 : Int32) &&& 31).toUInt32).toInt32) &&& (3 : Int32))), .val (.long (own_mn q1 q2)), .second, .val (.long (own_mx q1 q2)), .second, .val .null, .val .null, .val (.long tt), .second, .val (.ref b72), .val (.int (0 : Int32)), .val (.int (0 : Int32))] [(.int (0 : Int32))]) (fun t k => XS.iload X78.here hx rfl (hb hby at_174) rfl k) ?_
            refine own_f T78 (mkF m 178 #[.val (.long q1), .second, .val (.long q2), .second, .val (.long q3), .second, .val (.int p4), .val (.int zs), .val (.int ze), .val (.int (((p4.toUInt32 >>> ((2 : Int32) &&& 31).toUInt32).toInt32) &&& (3 : Int32))), .val (.long (own_mn q1 q2)), .second, .val (.long (own_mx q1 q2)), .second, .val .null, .val .null, .val (.long tt), .second, .val (.ref b72), .val (.int (0 : Int32)), .val (.int (0 : Int32))] [(.int (0 : Int32)), (.int (0 : Int32))]) (fun t k => XS.iload X78.here hx rfl (hb hby at_176) rfl k) ?_
            refine own_f T78 (mkF m 181 #[.val (.long q1), .second, .val (.long q2), .second, .val (.long q3), .second, .val (.int p4), .val (.int zs), .val (.int ze), .val (.int (((p4.toUInt32 >>> ((2 : Int32) &&& 31).toUInt32).toInt32) &&& (3 : Int32))), .val (.long (own_mn q1 q2)), .second, .val (.long (own_mx q1 q2)), .second, .val .null, .val .null, .val (.long tt), .second, .val (.ref b72), .val (.int (0 : Int32)), .val (.int (0 : Int32))] []) (fun t k => XS.icmpNo X78.here hx rfl (hb hby at_178) rfl (XT.ii_ne_f (by decide)) k) ?_
            refine own_f T78 (mkF m 182 #[.val (.long q1), .second, .val (.long q2), .second, .val (.long q3), .second, .val (.int p4), .val (.int zs), .val (.int ze), .val (.int (((p4.toUInt32 >>> ((2 : Int32) &&& 31).toUInt32).toInt32) &&& (3 : Int32))), .val (.long (own_mn q1 q2)), .second, .val (.long (own_mx q1 q2)), .second, .val .null, .val .null, .val (.long tt), .second, .val (.ref b72), .val (.int (0 : Int32)), .val (.int (0 : Int32))] [(.int (1 : Int32))]) (fun t k => XT.iconstV X78.here hx rfl (1 : Int32) (hb hby at_181) (by decide) k) ?_
            refine own_f T78 (mkF m 186 #[.val (.long q1), .second, .val (.long q2), .second, .val (.long q3), .second, .val (.int p4), .val (.int zs), .val (.int ze), .val (.int (((p4.toUInt32 >>> ((2 : Int32) &&& 31).toUInt32).toInt32) &&& (3 : Int32))), .val (.long (own_mn q1 q2)), .second, .val (.long (own_mx q1 q2)), .second, .val .null, .val .null, .val (.long tt), .second, .val (.ref b72), .val (.int (0 : Int32)), .val (.int (0 : Int32))] [(.int (1 : Int32))]) (fun t k => XS.goto X78.here hx rfl (pc0 := 182) (pc' := 186) rfl (hb hby at_182) (by decide) (by decide) k) ?_
            obtain ⟨fs, hr, hrun, hended, hW, hsame⟩ := X78.leave (v := some (.int (1 : Int32))) (fun h => by rw [Bd.returns] at h; cases h)
            refine ⟨_, _, retN X78 hx (t := .boolean) Bd.returns (by simp) (hb hby at_186) hr, hrun, hended, _, _, rfl, ?_, ⟨_, rfl⟩, hW, hsame.mono (by decide) (by decide)⟩
            show Q0 Z q1 q2 q3 p4 h0 n0 _ T78.heap _
            rw [e78]
            exact ⟨rfl, N78⟩
          by_cases hc79 : (((p4.toUInt32 >>> ((2 : Int32) &&& 31).toUInt32).toInt32) &&& (3 : Int32)) = (1 : Int32)
          · skip
            refine own_f T4 (mkF m 92 #[.val (.long q1), .second, .val (.long q2), .second, .val (.long q3), .second, .val (.int p4), .val (.int zs), .val (.int ze), .val (.int (((p4.toUInt32 >>> ((2 : Int32) &&& 31).toUInt32).toInt32) &&& (3 : Int32))), .val (.long (own_mn q1 q2)), .second, .val (.long (own_mx q1 q2)), .second, .val .null, .val .null, .val (.long q3), .second, .unset, .unset, .unset] []) (fun t k => XS.icmpNo X4.here hx rfl (hb hby at_89) rfl (XT.ii_ne_f hc79) k) ?_
            refine own_f T4 (mkF m 94 #[.val (.long q1), .second, .val (.long q2), .second, .val (.long q3), .second, .val (.int p4), .val (.int zs), .val (.int ze), .val (.int (((p4.toUInt32 >>> ((2 : Int32) &&& 31).toUInt32).toInt32) &&& (3 : Int32))), .val (.long (own_mn q1 q2)), .second, .val (.long (own_mx q1 q2)), .second, .val .null, .val .null, .val (.long q3), .second, .unset, .unset, .unset] [(.long (own_mx q1 q2))]) (fun t k => XS.lload X4.here hx rfl (hb hby at_92) rfl k) ?_
            refine own_f T4 (mkF m 95 #[.val (.long q1), .second, .val (.long q2), .second, .val (.long q3), .second, .val (.int p4), .val (.int zs), .val (.int ze), .val (.int (((p4.toUInt32 >>> ((2 : Int32) &&& 31).toUInt32).toInt32) &&& (3 : Int32))), .val (.long (own_mn q1 q2)), .second, .val (.long (own_mx q1 q2)), .second, .val .null, .val .null, .val (.long q3), .second, .unset, .unset, .unset] [(.long (1 : Int64)), (.long (own_mx q1 q2))]) (fun t k => XT.lconstV X4.here hx rfl (1 : Int64) (hb hby at_94) (by decide) k) ?_
            refine own_f T4 (mkF m 96 #[.val (.long q1), .second, .val (.long q2), .second, .val (.long q3), .second, .val (.int p4), .val (.int zs), .val (.int ze), .val (.int (((p4.toUInt32 >>> ((2 : Int32) &&& 31).toUInt32).toInt32) &&& (3 : Int32))), .val (.long (own_mn q1 q2)), .second, .val (.long (own_mx q1 q2)), .second, .val .null, .val .null, .val (.long q3), .second, .unset, .unset, .unset] [(.long ((own_mx q1 q2) - (1 : Int64)))]) (fun t k => XS.lsub X4.here hx rfl (hb hby at_95) rfl k) ?_
            refine own_f T4 (mkF m 98 #[.val (.long q1), .second, .val (.long q2), .second, .val (.long q3), .second, .val (.int p4), .val (.int zs), .val (.int ze), .val (.int (((p4.toUInt32 >>> ((2 : Int32) &&& 31).toUInt32).toInt32) &&& (3 : Int32))), .val (.long (own_mn q1 q2)), .second, .val (.long (own_mx q1 q2)), .second, .val .null, .val .null, .val (.long ((own_mx q1 q2) - (1 : Int64))), .second, .unset, .unset, .unset] []) (fun t k => XS.lstore X4.here hx rfl (hb hby at_96) rfl (l' := #[.val (.long q1), .second, .val (.long q2), .second, .val (.long q3), .second, .val (.int p4), .val (.int zs), .val (.int ze), .val (.int (((p4.toUInt32 >>> ((2 : Int32) &&& 31).toUInt32).toInt32) &&& (3 : Int32))), .val (.long (own_mn q1 q2)), .second, .val (.long (own_mx q1 q2)), .second, .val .null, .val .null, .val (.long ((own_mx q1 q2) - (1 : Int64))), .second, .unset, .unset, .unset]) rfl k) ?_
            refine own_f T4 (mkF m 126 #[.val (.long q1), .second, .val (.long q2), .second, .val (.long q3), .second, .val (.int p4), .val (.int zs), .val (.int ze), .val (.int (((p4.toUInt32 >>> ((2 : Int32) &&& 31).toUInt32).toInt32) &&& (3 : Int32))), .val (.long (own_mn q1 q2)), .second, .val (.long (own_mx q1 q2)), .second, .val .null, .val .null, .val (.long ((own_mx q1 q2) - (1 : Int64))), .second, .unset, .unset, .unset] []) (fun t k => XS.goto X4.here hx rfl (pc0 := 98) (pc' := 126) rfl (hb hby at_98) (by decide) (by decide) k) ?_
            exact jn71 ((own_mx q1 q2) - (1 : Int64))
          · skip
            refine own_f T4 (mkF m 101 #[.val (.long q1), .second, .val (.long q2), .second, .val (.long q3), .second, .val (.int p4), .val (.int zs), .val (.int ze), .val (.int (((p4.toUInt32 >>> ((2 : Int32) &&& 31).toUInt32).toInt32) &&& (3 : Int32))), .val (.long (own_mn q1 q2)), .second, .val (.long (own_mx q1 q2)), .second, .val .null, .val .null, .val (.long q3), .second, .unset, .unset, .unset] []) (fun t k => XS.icmpYes X4.here hx rfl (pc0 := 89) (pc' := 101) rfl (hb hby at_89) rfl (XT.ii_ne_t hc79) (by decide) (by decide) k) ?_
            refine own_f T4 (mkF m 103 #[.val (.long q1), .second, .val (.long q2), .second, .val (.long q3), .second, .val (.int p4), .val (.int zs), .val (.int ze), .val (.int (((p4.toUInt32 >>> ((2 : Int32) &&& 31).toUInt32).toInt32) &&& (3 : Int32))), .val (.long (own_mn q1 q2)), .second, .val (.long (own_mx q1 q2)), .second, .val .null, .val .null, .val (.long q3), .second, .unset, .unset, .unset] [(.int (((p4.toUInt32 >>> ((2 : Int32) &&& 31).toUInt32).toInt32) &&& (3 : Int32)))]) (fun t k => XS.iload X4.here hx rfl (hb hby at_101) rfl k) ?_
            refine own_f T4 (mkF m 104 #[.val (.long q1), .second, .val (.long q2), .second, .val (.long q3), .second, .val (.int p4), .val (.int zs), .val (.int ze), .val (.int (((p4.toUInt32 >>> ((2 : Int32) &&& 31).toUInt32).toInt32) &&& (3 : Int32))), .val (.long (own_mn q1 q2)), .second, .val (.long (own_mx q1 q2)), .second, .val .null, .val .null, .val (.long q3), .second, .unset, .unset, .unset] [(.int (2 : Int32)), (.int (((p4.toUInt32 >>> ((2 : Int32) &&& 31).toUInt32).toInt32) &&& (3 : Int32)))]) (fun t k => XT.iconstV X4.here hx rfl (2 : Int32) (hb hby at_103) (by decide) k) ?_
            by_cases hc80 : (((p4.toUInt32 >>> ((2 : Int32) &&& 31).toUInt32).toInt32) &&& (3 : Int32)) = (2 : Int32)
            · skip
              refine own_f T4 (mkF m 107 #[.val (.long q1), .second, .val (.long q2), .second, .val (.long q3), .second, .val (.int p4), .val (.int zs), .val (.int ze), .val (.int (((p4.toUInt32 >>> ((2 : Int32) &&& 31).toUInt32).toInt32) &&& (3 : Int32))), .val (.long (own_mn q1 q2)), .second, .val (.long (own_mx q1 q2)), .second, .val .null, .val .null, .val (.long q3), .second, .unset, .unset, .unset] []) (fun t k => XS.icmpNo X4.here hx rfl (hb hby at_104) rfl (XT.ii_ne_f hc80) k) ?_
              refine own_f T4 (mkF m 109 #[.val (.long q1), .second, .val (.long q2), .second, .val (.long q3), .second, .val (.int p4), .val (.int zs), .val (.int ze), .val (.int (((p4.toUInt32 >>> ((2 : Int32) &&& 31).toUInt32).toInt32) &&& (3 : Int32))), .val (.long (own_mn q1 q2)), .second, .val (.long (own_mx q1 q2)), .second, .val .null, .val .null, .val (.long q3), .second, .unset, .unset, .unset] [(.long (own_mx q1 q2))]) (fun t k => XS.lload X4.here hx rfl (hb hby at_107) rfl k) ?_
              refine own_f T4 (mkF m 111 #[.val (.long q1), .second, .val (.long q2), .second, .val (.long q3), .second, .val (.int p4), .val (.int zs), .val (.int ze), .val (.int (((p4.toUInt32 >>> ((2 : Int32) &&& 31).toUInt32).toInt32) &&& (3 : Int32))), .val (.long (own_mn q1 q2)), .second, .val (.long (own_mx q1 q2)), .second, .val .null, .val .null, .val (.long (own_mx q1 q2)), .second, .unset, .unset, .unset] []) (fun t k => XS.lstore X4.here hx rfl (hb hby at_109) rfl (l' := #[.val (.long q1), .second, .val (.long q2), .second, .val (.long q3), .second, .val (.int p4), .val (.int zs), .val (.int ze), .val (.int (((p4.toUInt32 >>> ((2 : Int32) &&& 31).toUInt32).toInt32) &&& (3 : Int32))), .val (.long (own_mn q1 q2)), .second, .val (.long (own_mx q1 q2)), .second, .val .null, .val .null, .val (.long (own_mx q1 q2)), .second, .unset, .unset, .unset]) rfl k) ?_
              refine own_f T4 (mkF m 126 #[.val (.long q1), .second, .val (.long q2), .second, .val (.long q3), .second, .val (.int p4), .val (.int zs), .val (.int ze), .val (.int (((p4.toUInt32 >>> ((2 : Int32) &&& 31).toUInt32).toInt32) &&& (3 : Int32))), .val (.long (own_mn q1 q2)), .second, .val (.long (own_mx q1 q2)), .second, .val .null, .val .null, .val (.long (own_mx q1 q2)), .second, .unset, .unset, .unset] []) (fun t k => XS.goto X4.here hx rfl (pc0 := 111) (pc' := 126) rfl (hb hby at_111) (by decide) (by decide) k) ?_
              exact jn71 (own_mx q1 q2)
            · skip
              refine own_f T4 (mkF m 114 #[.val (.long q1), .second, .val (.long q2), .second, .val (.long q3), .second, .val (.int p4), .val (.int zs), .val (.int ze), .val (.int (((p4.toUInt32 >>> ((2 : Int32) &&& 31).toUInt32).toInt32) &&& (3 : Int32))), .val (.long (own_mn q1 q2)), .second, .val (.long (own_mx q1 q2)), .second, .val .null, .val .null, .val (.long q3), .second, .unset, .unset, .unset] []) (fun t k => XS.icmpYes X4.here hx rfl (pc0 := 104) (pc' := 114) rfl (hb hby at_104) rfl (XT.ii_ne_t hc80) (by decide) (by decide) k) ?_
              refine own_f T4 (mkF m 116 #[.val (.long q1), .second, .val (.long q2), .second, .val (.long q3), .second, .val (.int p4), .val (.int zs), .val (.int ze), .val (.int (((p4.toUInt32 >>> ((2 : Int32) &&& 31).toUInt32).toInt32) &&& (3 : Int32))), .val (.long (own_mn q1 q2)), .second, .val (.long (own_mx q1 q2)), .second, .val .null, .val .null, .val (.long q3), .second, .unset, .unset, .unset] [(.int (((p4.toUInt32 >>> ((2 : Int32) &&& 31).toUInt32).toInt32) &&& (3 : Int32)))]) (fun t k => XS.iload X4.here hx rfl (hb hby at_114) rfl k) ?_
              refine own_f T4 (mkF m 117 #[.val (.long q1), .second, .val (.long q2), .second, .val (.long q3), .second, .val (.int p4), .val (.int zs), .val (.int ze), .val (.int (((p4.toUInt32 >>> ((2 : Int32) &&& 31).toUInt32).toInt32) &&& (3 : Int32))), .val (.long (own_mn q1 q2)), .second, .val (.long (own_mx q1 q2)), .second, .val .null, .val .null, .val (.long q3), .second, .unset, .unset, .unset] [(.int (3 : Int32)), (.int (((p4.toUInt32 >>> ((2 : Int32) &&& 31).toUInt32).toInt32) &&& (3 : Int32)))]) (fun t k => XT.iconstV X4.here hx rfl (3 : Int32) (hb hby at_116) (by decide) k) ?_
              by_cases hc81 : (((p4.toUInt32 >>> ((2 : Int32) &&& 31).toUInt32).toInt32) &&& (3 : Int32)) = (3 : Int32)
              · skip
                refine own_f T4 (mkF m 120 #[.val (.long q1), .second, .val (.long q2), .second, .val (.long q3), .second, .val (.int p4), .val (.int zs), .val (.int ze), .val (.int (((p4.toUInt32 >>> ((2 : Int32) &&& 31).toUInt32).toInt32) &&& (3 : Int32))), .val (.long (own_mn q1 q2)), .second, .val (.long (own_mx q1 q2)), .second, .val .null, .val .null, .val (.long q3), .second, .unset, .unset, .unset] []) (fun t k => XS.icmpNo X4.here hx rfl (hb hby at_117) rfl (XT.ii_ne_f hc81) k) ?_
                refine own_f T4 (mkF m 122 #[.val (.long q1), .second, .val (.long q2), .second, .val (.long q3), .second, .val (.int p4), .val (.int zs), .val (.int ze), .val (.int (((p4.toUInt32 >>> ((2 : Int32) &&& 31).toUInt32).toInt32) &&& (3 : Int32))), .val (.long (own_mn q1 q2)), .second, .val (.long (own_mx q1 q2)), .second, .val .null, .val .null, .val (.long q3), .second, .unset, .unset, .unset] [(.long (own_mx q1 q2))]) (fun t k => XS.lload X4.here hx rfl (hb hby at_120) rfl k) ?_
                refine own_f T4 (mkF m 123 #[.val (.long q1), .second, .val (.long q2), .second, .val (.long q3), .second, .val (.int p4), .val (.int zs), .val (.int ze), .val (.int (((p4.toUInt32 >>> ((2 : Int32) &&& 31).toUInt32).toInt32) &&& (3 : Int32))), .val (.long (own_mn q1 q2)), .second, .val (.long (own_mx q1 q2)), .second, .val .null, .val .null, .val (.long q3), .second, .unset, .unset, .unset] [(.long (1 : Int64)), (.long (own_mx q1 q2))]) (fun t k => XT.lconstV X4.here hx rfl (1 : Int64) (hb hby at_122) (by decide) k) ?_
                refine own_f T4 (mkF m 124 #[.val (.long q1), .second, .val (.long q2), .second, .val (.long q3), .second, .val (.int p4), .val (.int zs), .val (.int ze), .val (.int (((p4.toUInt32 >>> ((2 : Int32) &&& 31).toUInt32).toInt32) &&& (3 : Int32))), .val (.long (own_mn q1 q2)), .second, .val (.long (own_mx q1 q2)), .second, .val .null, .val .null, .val (.long q3), .second, .unset, .unset, .unset] [(.long ((own_mx q1 q2) + (1 : Int64)))]) (fun t k => XS.ladd X4.here hx rfl (hb hby at_123) rfl k) ?_
                refine own_f T4 (mkF m 126 #[.val (.long q1), .second, .val (.long q2), .second, .val (.long q3), .second, .val (.int p4), .val (.int zs), .val (.int ze), .val (.int (((p4.toUInt32 >>> ((2 : Int32) &&& 31).toUInt32).toInt32) &&& (3 : Int32))), .val (.long (own_mn q1 q2)), .second, .val (.long (own_mx q1 q2)), .second, .val .null, .val .null, .val (.long ((own_mx q1 q2) + (1 : Int64))), .second, .unset, .unset, .unset] []) (fun t k => XS.lstore X4.here hx rfl (hb hby at_124) rfl (l' := #[.val (.long q1), .second, .val (.long q2), .second, .val (.long q3), .second, .val (.int p4), .val (.int zs), .val (.int ze), .val (.int (((p4.toUInt32 >>> ((2 : Int32) &&& 31).toUInt32).toInt32) &&& (3 : Int32))), .val (.long (own_mn q1 q2)), .second, .val (.long (own_mx q1 q2)), .second, .val .null, .val .null, .val (.long ((own_mx q1 q2) + (1 : Int64))), .second, .unset, .unset, .unset]) rfl k) ?_
                exact jn71 ((own_mx q1 q2) + (1 : Int64))
              · skip
                refine own_f T4 (mkF m 126 #[.val (.long q1), .second, .val (.long q2), .second, .val (.long q3), .second, .val (.int p4), .val (.int zs), .val (.int ze), .val (.int (((p4.toUInt32 >>> ((2 : Int32) &&& 31).toUInt32).toInt32) &&& (3 : Int32))), .val (.long (own_mn q1 q2)), .second, .val (.long (own_mx q1 q2)), .second, .val .null, .val .null, .val (.long q3), .second, .unset, .unset, .unset] []) (fun t k => XS.icmpYes X4.here hx rfl (pc0 := 117) (pc' := 126) rfl (hb hby at_117) rfl (XT.ii_ne_t hc81) (by decide) (by decide) k) ?_
                exact jn71 q3
    by_cases hc82 : (p4 &&& (2 : Int32)) = 0
    · skip
      refine own_f s₁ (mkF m 25 #[.val (.long q1), .second, .val (.long q2), .second, .val (.long q3), .second, .val (.int p4), .val (.int zs), .unset, .unset, .unset, .unset, .unset, .unset, .unset, .unset, .unset, .unset, .unset, .unset, .unset] []) (fun t k => XS.ifYes X0.here hx rfl (pc0 := 18) (pc' := 25) rfl (hb hby at_18) rfl (XT.i0_eq_t hc82) (by decide) (by decide) k) ?_
      refine own_f s₁ (mkF m 26 #[.val (.long q1), .second, .val (.long q2), .second, .val (.long q3), .second, .val (.int p4), .val (.int zs), .unset, .unset, .unset, .unset, .unset, .unset, .unset, .unset, .unset, .unset, .unset, .unset, .unset] [(.int (0 : Int32))]) (fun t k => XT.iconstV X0.here hx rfl (0 : Int32) (hb hby at_25) (by decide) k) ?_
      exact jn2 (0 : Int32)
    · skip
      refine own_f s₁ (mkF m 21 #[.val (.long q1), .second, .val (.long q2), .second, .val (.long q3), .second, .val (.int p4), .val (.int zs), .unset, .unset, .unset, .unset, .unset, .unset, .unset, .unset, .unset, .unset, .unset, .unset, .unset] []) (fun t k => XS.ifNo X0.here hx rfl (hb hby at_18) rfl (XT.i0_eq_f hc82) k) ?_
      refine own_f s₁ (mkF m 22 #[.val (.long q1), .second, .val (.long q2), .second, .val (.long q3), .second, .val (.int p4), .val (.int zs), .unset, .unset, .unset, .unset, .unset, .unset, .unset, .unset, .unset, .unset, .unset, .unset, .unset] [(.int (1 : Int32))]) (fun t k => XT.iconstV X0.here hx rfl (1 : Int32) (hb hby at_21) (by decide) k) ?_
      refine own_f s₁ (mkF m 26 #[.val (.long q1), .second, .val (.long q2), .second, .val (.long q3), .second, .val (.int p4), .val (.int zs), .unset, .unset, .unset, .unset, .unset, .unset, .unset, .unset, .unset, .unset, .unset, .unset, .unset] [(.int (1 : Int32))]) (fun t k => XS.goto X0.here hx rfl (pc0 := 22) (pc' := 26) rfl (hb hby at_22) (by decide) (by decide) k) ?_
      exact jn2 (1 : Int32)
  by_cases hc83 : (p4 &&& (1 : Int32)) = 0
  · skip
    refine own_f s₁ (mkF m 11 #[.val (.long q1), .second, .val (.long q2), .second, .val (.long q3), .second, .val (.int p4), .unset, .unset, .unset, .unset, .unset, .unset, .unset, .unset, .unset, .unset, .unset, .unset, .unset, .unset] []) (fun t k => XS.ifYes X0.here hx rfl (pc0 := 4) (pc' := 11) rfl (hb hby at_4) rfl (XT.i0_eq_t hc83) (by decide) (by decide) k) ?_
    refine own_f s₁ (mkF m 12 #[.val (.long q1), .second, .val (.long q2), .second, .val (.long q3), .second, .val (.int p4), .unset, .unset, .unset, .unset, .unset, .unset, .unset, .unset, .unset, .unset, .unset, .unset, .unset, .unset] [(.int (0 : Int32))]) (fun t k => XT.iconstV X0.here hx rfl (0 : Int32) (hb hby at_11) (by decide) k) ?_
    exact jn1 (0 : Int32)
  · skip
    refine own_f s₁ (mkF m 7 #[.val (.long q1), .second, .val (.long q2), .second, .val (.long q3), .second, .val (.int p4), .unset, .unset, .unset, .unset, .unset, .unset, .unset, .unset, .unset, .unset, .unset, .unset, .unset, .unset] []) (fun t k => XS.ifNo X0.here hx rfl (hb hby at_4) rfl (XT.i0_eq_f hc83) k) ?_
    refine own_f s₁ (mkF m 8 #[.val (.long q1), .second, .val (.long q2), .second, .val (.long q3), .second, .val (.int p4), .unset, .unset, .unset, .unset, .unset, .unset, .unset, .unset, .unset, .unset, .unset, .unset, .unset, .unset] [(.int (1 : Int32))]) (fun t k => XT.iconstV X0.here hx rfl (1 : Int32) (hb hby at_7) (by decide) k) ?_
    refine own_f s₁ (mkF m 12 #[.val (.long q1), .second, .val (.long q2), .second, .val (.long q3), .second, .val (.int p4), .unset, .unset, .unset, .unset, .unset, .unset, .unset, .unset, .unset, .unset, .unset, .unset, .unset, .unset] [(.int (1 : Int32))]) (fun t k => XS.goto X0.here hx rfl (pc0 := 8) (pc' := 12) rfl (hb hby at_8) (by decide) (by decide) k) ?_
    exact jn1 (1 : Int32)
set_option maxRecDepth 65536 in
set_option maxHeartbeats 40000000 in
theorem comes_1 {Post : Tables → Env → Array Value → State → Outcome → State → Prop} (hpost : ∀ tb e args s v u, (limb_1_1.after args s (.returned v) u = true ∧ limb_1_2.after args s (.returned v) u = true ∧ True) → FrameEnd s (.returned v) u (Jvm.fieldLocs frame_1_writes args s ++ Jvm.arrayLocs frame_1_arrays args s ++ Jvm.staticLocs frame_1_statics s) 16 128 → Post tb e args s (.returned v) u) :
    ArmFor flags0 classFile x code maxLocals ret World_1 tables_1 room_1 Calls_1 rest_1 Pre_1 Post := by
  intro l hfl _ _ p e ha hc hk s m args below hf hA hF happ hP
  obtain ⟨hcalls, hrest, hpre⟩ := hP
  obtain ⟨-, -, -, hnamed, -, -, -, hat⟩ := (Spec.applies_iff hf).mp happ
  obtain ⟨hg, hn⟩ := and_e (Cond.before_iff.mp (show (Jvm.Cond.and given_1 narrow_1).before args s = true from hpre))
  obtain ⟨g0, r0⟩ := and_e hg
  obtain ⟨g1, r1⟩ := and_e r0
  obtain ⟨g2, r2⟩ := and_e r1
  obtain ⟨g3, r3⟩ := and_e r2
  obtain ⟨w0, w1, w2, w3, rfl⟩ : ∃ w0 w1 w2 w3 : Value, args = #[w0, w1, w2, w3] := by
    have hs : args.size = 4 := by simpa [Cond.value, given_1] using g0
    obtain ⟨L⟩ := args
    match L, hs with
    | [w0, w1, w2, w3], _ => exact ⟨w0, w1, w2, w3, rfl⟩
  have hw := fun d (hd : d ∈ tables_1) => atoms_spec (ws := Jvm.Cond.code x code maxLocals ret :: tables_1) hat d (List.mem_cons_of_mem _ hd)
  obtain ⟨hsets, hown0⟩ := atoms_of _ (rest_1_c_eq ▸ (show rest_1_c.before _ s = true from hrest))
  have hfit : Fit s := fun {y c} hc i hi => by
    obtain ⟨ha, rfl⟩ := Array.getElem?_eq_some_iff.mp hc
    have q := List.all_eq_true.mp ((Array.all_eq_true_iff_forall_mem.mp hF) _ (Array.getElem_mem ha)) i (List.mem_range.mpr hi)
    simpa [Array.getElem?_eq_getElem hi] using q
  obtain ⟨i0, ev0⟩ := isL_v g1
  obtain rfl : w0 = (.long i0) := Option.some.inj ev0
  obtain ⟨i1, ev1⟩ := isL_v g2
  obtain rfl : w1 = (.long i1) := Option.some.inj ev1
  obtain ⟨i2, ev2⟩ := isL_v g3
  obtain rfl : w2 = (.long i2) := Option.some.inj ev2
  obtain ⟨i3, ev3⟩ := is_v r3
  obtain rfl : w3 = (.int i3) := Option.some.inj ev3
  have HC : own_C s s.heap := own_cache hfit (fun d hd => hsets d hd) (hw _ (List.mem_of_getElem? (i := 52) rfl))
  obtain ⟨n, o, h1, h2, h3, _, L, rfl, ⟨rfl, N⟩, hq⟩ := rm0 l s _ hw tables_1 i0 i1 i2 i3 s.heap s.heap.size (Nat.le_refl _) (Old.start s) HC p e ha hc hk s m _ below hf ((Spec.applies_iff_loose hf).mp happ).1 ⟨rfl, State.Warmed39.refl s, rfl⟩ trivial
  refine ⟨n, _, h1, h2, h3, hpost _ _ _ _ _ _ ⟨Cond.after_iff.mpr rfl, Cond.after_iff.mpr (eq_i res_at (Term.int_eval (1)) rfl), trivial⟩ ⟨hq.1, hq.2.1, (hq.2.2.sift fun y hy => Or.inr (N y hy)).mono (by decide) (by decide)⟩⟩
theorem main_1_1 : Claimed_1_1 := comes_1 fun _ _ _ _ _ _ h hF => ⟨h.1, hF⟩
theorem main_1_2 : Claimed_1_2 := comes_1 fun _ _ _ _ _ _ h hF => ⟨h.2.1, hF⟩
end Jvm.Pilot.@@N@@
namespace Jvm.Pilot.@@N@@
open Jvm Jvm.ClassFile Sem Op Lib Jvm.Free Jvm.Stand Jvm.Pilot.@@N@@.Jvm.D
/-! MADE BY PROGRAM (witnessworld.py) out of the Statement's table words and the real class files: 18 classes; the members and pool entries that the words name. The judged class is class 1, her method 1. -/
namespace start1
open Jvm.ClassFile
def u (s : String) : CpInfo := .utf8 (stringToUtf16 s)
/-- a pool by its gaps: so many unusable entries, then the entry; so many at the end -/
def gap : Nat → List CpInfo → List CpInfo
  | 0, r => r
  | n + 1, r => .unusable :: gap n r
def poolList (es : List (Nat × CpInfo)) (last : Nat) : List CpInfo := es.foldr (fun e r => gap e.1 (e.2 :: r)) (gap last [])
def pool (es : List (Nat × CpInfo)) (last : Nat) : Array CpInfo := ⟨poolList es last⟩
def fileOf (pool : Array CpInfo) (this : Nat) (attrs : Array Attribute := #[]) (ms : Array MethodInfo := #[]) (fl : Nat := 33) (sup : Nat := 0) (ifs : Array Nat := #[]) (fds : Array FieldInfo := #[]) : ClassFile where
  minorVersion := 0
  majorVersion := 65
  constantPool := pool
  accessFlags := fl
  thisClass := this
  superClass := sup
  interfaces := ifs
  fields := fds
  methods := ms
  attributes := attrs
def plain (name : String) (sup : Option ClassId) : Class where
  name := name
  kind := .ordinary
  loader := none
  accessFlags := 33
  super := sup
  interfaces := #[]
  cf := none
  fields := #[]
  methods := #[]
  instanceTypes := #[]
  staticTypes := #[]
  resolved := #[]
  callSites := []
  init := .initialized
  statics := none
  mirror := none

def pool0 : Array CpInfo := pool [(5, u "<init>"), (0, u "()V"), (1, .class_ 10), (1, u "java/lang/Object")] 113

def k0c0 : Code := { maxStack := 0, maxLocals := 1, code := object_method_1_code, exceptionTable := #[], attributes := #[] }
def k0m0 : Method := { name := "<init>", desc := "()V", sig := { parameters := [], returnType := none }, accessFlags := 1, code := some k0c0 }
/-- java/lang/Object -/
def k0 : Class := { plain "java/lang/Object" none with
  accessFlags := 33
  interfaces := #[]
  cf := some (fileOf pool0 8 #[] #[{ accessFlags := 1, nameIndex := 5, descriptorIndex := 6, attributes := #[] }] 33 0 #[] #[])
  fields := #[]
  methods := #[k0m0]
  instanceTypes := #[]
  staticTypes := #[]
  resolved := Array.replicate 124 none
  statics := none }

def pool1 : Array CpInfo := pool [(2, .class_ 4), (1, u "java/lang/Object"), (0, u "<init>"), (0, u "()V"), (0, .methodref 8 9), (0, .class_ 10), (0, .nameAndType 11 12), (0, u "java/lang/Math"), (0, u "min"), (0, u "(JJ)J"), (0, .methodref 8 14), (0, .nameAndType 15 12), (0, u "max"), (0, .methodref 17 18), (0, .class_ 19), (0, .nameAndType 20 21), (0, u "java/lang/Long"), (0, u "valueOf"), (0, u "(J)Ljava/lang/Long;"), (0, .class_ 23), (0, u "com/example/reading_buckets/readingbuckets/TimeRange"), (0, .methodref 22 25), (0, .nameAndType 5 26), (0, u "(Ljava/lang/Long;Ljava/lang/Long;)V"), (0, .methodref 22 28), (0, .nameAndType 29 30), (0, u "endsAtOrBefore"), (0, u "(J)Z"), (0, .class_ 32), (0, u "com/example/reading_buckets/readingbuckets/TimeRangeEndsAtOrBeforePinLaw"), (2, u "law"), (0, u "(JJJI)Z")] 3

def k1m0 : Method := { name := "<init>", desc := "()V", sig := { parameters := [], returnType := none }, accessFlags := 1, code := none }
def k1c1 : Code := { maxStack := 4, maxLocals := 21, code := code, exceptionTable := #[], attributes := #[] }
def k1m1 : Method := { name := "law", desc := "(JJJI)Z", sig := { parameters := [.long, .long, .long, .int], returnType := some .boolean }, accessFlags := 9, code := some k1c1 }
/-- com/example/reading_buckets/readingbuckets/TimeRangeEndsAtOrBeforePinLaw -/
def k1 : Class := { plain "com/example/reading_buckets/readingbuckets/TimeRangeEndsAtOrBeforePinLaw" (some 0) with
  accessFlags := 49
  interfaces := #[]
  cf := some (fileOf pool1 31 #[] #[{ accessFlags := 1, nameIndex := 5, descriptorIndex := 6, attributes := #[] }, { accessFlags := 9, nameIndex := 35, descriptorIndex := 36, attributes := #[] }] 49 2 #[] #[])
  fields := #[]
  methods := #[k1m0, k1m1]
  instanceTypes := #[]
  staticTypes := #[]
  resolved := Array.replicate 40 none
  statics := none }

def pool2 : Array CpInfo := pool [(1, .class_ 2), (0, u "java/lang/Math"), (1, .class_ 6), (1, u "java/lang/Object"), (0, u "<init>"), (0, u "()V"), (89, .class_ 100), (1, u "java/lang/Math$RandomNumberGeneratorHolder"), (20, u "(JJ)J"), (50, u "negativeZeroFloatBits"), (0, u "J"), (2, u "negativeZeroDoubleBits"), (21, u "max"), (2, u "min"), (43, u "$assertionsDisabled"), (0, u "Z"), (91, u "twoToTheDoubleScaleDown"), (0, u "D"), (4, u "twoToTheDoubleScaleUp"), (9, u "E"), (3, u "PI"), (2, u "TAU"), (2, u "DEGREES_TO_RADIANS"), (0, u "RADIANS_TO_DEGREES")] 94

def k2m0 : Method := { name := "<init>", desc := "()V", sig := { parameters := [], returnType := none }, accessFlags := 2, code := none }
def k2c1 : Code := { maxStack := 4, maxLocals := 4, code := jdk_29_method_66_code, exceptionTable := #[], attributes := #[] }
def k2m1 : Method := { name := "max", desc := "(JJ)J", sig := { parameters := [.long, .long], returnType := some .long }, accessFlags := 9, code := some k2c1 }
def k2c2 : Code := { maxStack := 4, maxLocals := 4, code := jdk_29_method_70_code, exceptionTable := #[], attributes := #[] }
def k2m2 : Method := { name := "min", desc := "(JJ)J", sig := { parameters := [.long, .long], returnType := some .long }, accessFlags := 9, code := some k2c2 }
/-- java/lang/Math -/
def k2 : Class := { plain "java/lang/Math" (some 0) with
  accessFlags := 49
  interfaces := #[]
  cf := some (fileOf pool2 1 #[.nestMembers #[98]] #[{ accessFlags := 2, nameIndex := 7, descriptorIndex := 8, attributes := #[] }, { accessFlags := 9, nameIndex := 198, descriptorIndex := 121, attributes := #[] }, { accessFlags := 9, nameIndex := 201, descriptorIndex := 121, attributes := #[] }] 49 4 #[] #[{ accessFlags := 25, nameIndex := 354, descriptorIndex := 339, attributes := #[] }, { accessFlags := 25, nameIndex := 358, descriptorIndex := 339, attributes := #[] }, { accessFlags := 25, nameIndex := 361, descriptorIndex := 339, attributes := #[] }, { accessFlags := 26, nameIndex := 364, descriptorIndex := 339, attributes := #[] }, { accessFlags := 26, nameIndex := 365, descriptorIndex := 339, attributes := #[] }, { accessFlags := 26, nameIndex := 172, descriptorIndex := 173, attributes := #[] }, { accessFlags := 26, nameIndex := 176, descriptorIndex := 173, attributes := #[] }, { accessFlags := 8, nameIndex := 344, descriptorIndex := 339, attributes := #[] }, { accessFlags := 8, nameIndex := 338, descriptorIndex := 339, attributes := #[] }, { accessFlags := 4120, nameIndex := 245, descriptorIndex := 246, attributes := #[] }])
  fields := #[{ name := "E", type := .double, accessFlags := 25, slot := 0, constantValue := 0 }, { name := "PI", type := .double, accessFlags := 25, slot := 1, constantValue := 0 }, { name := "TAU", type := .double, accessFlags := 25, slot := 2, constantValue := 0 }, { name := "DEGREES_TO_RADIANS", type := .double, accessFlags := 26, slot := 3, constantValue := 0 }, { name := "RADIANS_TO_DEGREES", type := .double, accessFlags := 26, slot := 4, constantValue := 0 }, { name := "negativeZeroFloatBits", type := .long, accessFlags := 26, slot := 5, constantValue := 0 }, { name := "negativeZeroDoubleBits", type := .long, accessFlags := 26, slot := 6, constantValue := 0 }, { name := "twoToTheDoubleScaleUp", type := .double, accessFlags := 8, slot := 7, constantValue := 0 }, { name := "twoToTheDoubleScaleDown", type := .double, accessFlags := 8, slot := 8, constantValue := 0 }, { name := "$assertionsDisabled", type := .boolean, accessFlags := 4120, slot := 9, constantValue := 0 }]
  methods := #[k2m0, k2m1, k2m2]
  instanceTypes := #[]
  staticTypes := #[.double, .double, .double, .double, .double, .long, .long, .double, .double, .boolean]
  resolved := Array.replicate 460 none
  statics := none }

def pool3 : Array CpInfo := pool [(1, .class_ 2), (0, u "java/io/Serializable"), (0, .class_ 4), (0, u "java/lang/Object")] 2

/-- java/io/Serializable -/
def k3 : Class := { plain "java/io/Serializable" (some 0) with
  accessFlags := 1537
  interfaces := #[]
  cf := some (fileOf pool3 1 #[] #[] 1537 3 #[] #[])
  fields := #[]
  methods := #[]
  instanceTypes := #[]
  staticTypes := #[]
  resolved := Array.replicate 7 none
  statics := none }

def pool4 : Array CpInfo := pool [(1, .methodref 2 3), (0, .class_ 4), (0, .nameAndType 5 6), (0, u "java/lang/Object"), (0, u "<init>"), (0, u "()V"), (1, .class_ 10), (1, u "java/lang/Number"), (2, .class_ 14), (0, u "java/io/Serializable"), (0, u "serialVersionUID"), (0, u "J")] 20

def k4c0 : Code := { maxStack := 1, maxLocals := 1, code := jdk_18_method_1_code, exceptionTable := #[], attributes := #[] }
def k4m0 : Method := { name := "<init>", desc := "()V", sig := { parameters := [], returnType := none }, accessFlags := 1, code := some k4c0 }
/-- java/lang/Number -/
def k4 : Class := { plain "java/lang/Number" (some 0) with
  accessFlags := 1057
  interfaces := #[3]
  cf := some (fileOf pool4 8 #[] #[{ accessFlags := 1, nameIndex := 5, descriptorIndex := 6, attributes := #[] }] 1057 2 #[13] #[{ accessFlags := 26, nameIndex := 15, descriptorIndex := 16, attributes := #[] }])
  fields := #[{ name := "serialVersionUID", type := .long, accessFlags := 26, slot := 0, constantValue := 0 }]
  methods := #[k4m0]
  instanceTypes := #[]
  staticTypes := #[.long]
  resolved := Array.replicate 37 none
  statics := none }

def pool5 : Array CpInfo := pool [(1, .class_ 2), (0, u "java/lang/Comparable"), (0, .class_ 4), (0, u "java/lang/Object")] 7

/-- java/lang/Comparable -/
def k5 : Class := { plain "java/lang/Comparable" (some 0) with
  accessFlags := 1537
  interfaces := #[]
  cf := some (fileOf pool5 1 #[] #[] 1537 3 #[] #[])
  fields := #[]
  methods := #[]
  instanceTypes := #[]
  staticTypes := #[]
  resolved := Array.replicate 12 none
  statics := none }

def pool6 : Array CpInfo := pool [(1, .class_ 2), (0, u "java/lang/constant/Constable"), (0, .class_ 4), (0, u "java/lang/Object")] 6

/-- java/lang/constant/Constable -/
def k6 : Class := { plain "java/lang/constant/Constable" (some 0) with
  accessFlags := 1537
  interfaces := #[]
  cf := some (fileOf pool6 1 #[] #[] 1537 3 #[] #[])
  fields := #[]
  methods := #[]
  instanceTypes := #[]
  staticTypes := #[]
  resolved := Array.replicate 11 none
  statics := none }

def pool7 : Array CpInfo := pool [(1, .class_ 2), (0, u "java/lang/constant/ConstantDesc"), (0, .class_ 4), (0, u "java/lang/Object")] 32

/-- java/lang/constant/ConstantDesc -/
def k7 : Class := { plain "java/lang/constant/ConstantDesc" (some 0) with
  accessFlags := 1537
  interfaces := #[]
  cf := some (fileOf pool7 1 #[] #[] 1537 3 #[] #[])
  fields := #[]
  methods := #[]
  instanceTypes := #[]
  staticTypes := #[]
  resolved := Array.replicate 37 none
  statics := none }

def pool8 : Array CpInfo := pool [(1, .class_ 2), (0, u "java/lang/Long"), (55, .nameAndType 59 60), (0, u "<init>"), (0, u "()V"), (24, u "valueOf"), (143, u "(J)Ljava/lang/Long;"), (0, .long 18446744073709551488), (1, .long 127), (1, .fieldref 235 236), (0, .class_ 237), (0, .nameAndType 238 239), (0, u "java/lang/Long$LongCache"), (0, u "cache"), (0, u "[Ljava/lang/Long;"), (0, .methodref 1 241), (0, .nameAndType 59 242), (0, u "(J)V"), (27, .methodref 271 58), (0, .class_ 272), (0, u "java/lang/Number"), (0, .fieldref 1 274), (0, .nameAndType 275 276), (0, u "value"), (0, u "J"), (5, u "longValue"), (0, u "()J"), (77, u "TYPE"), (0, u "Ljava/lang/Class;"), (0, .class_ 364), (0, u "java/lang/Comparable"), (0, .class_ 366), (0, u "java/lang/constant/Constable"), (0, .class_ 368), (0, u "java/lang/constant/ConstantDesc"), (0, u "MIN_VALUE"), (1, u "MAX_VALUE"), (4, u "SIZE"), (0, u "I"), (1, u "BYTES"), (1, u "serialVersionUID")] 142

def k8c0 : Code := { maxStack := 4, maxLocals := 3, code := jdk_35_method_24_code, exceptionTable := #[], attributes := #[] }
def k8m0 : Method := { name := "valueOf", desc := "(J)Ljava/lang/Long;", sig := { parameters := [.long], returnType := some (.object "java/lang/Long") }, accessFlags := 9, code := some k8c0 }
def k8c1 : Code := { maxStack := 3, maxLocals := 3, code := jdk_35_method_26_code, exceptionTable := #[], attributes := #[] }
def k8m1 : Method := { name := "<init>", desc := "(J)V", sig := { parameters := [.long], returnType := none }, accessFlags := 1, code := some k8c1 }
def k8c2 : Code := { maxStack := 2, maxLocals := 1, code := jdk_35_method_31_code, exceptionTable := #[], attributes := #[] }
def k8m2 : Method := { name := "longValue", desc := "()J", sig := { parameters := [], returnType := some .long }, accessFlags := 1, code := some k8c2 }
/-- java/lang/Long -/
def k8 : Class := { plain "java/lang/Long" (some 4) with
  accessFlags := 49
  interfaces := #[5, 6, 7]
  cf := some (fileOf pool8 1 #[.nestMembers #[235]] #[{ accessFlags := 9, nameIndex := 85, descriptorIndex := 229, attributes := #[] }, { accessFlags := 1, nameIndex := 59, descriptorIndex := 242, attributes := #[] }, { accessFlags := 1, nameIndex := 282, descriptorIndex := 283, attributes := #[] }] 49 271 #[363, 365, 367] #[{ accessFlags := 25, nameIndex := 369, descriptorIndex := 276, attributes := #[] }, { accessFlags := 25, nameIndex := 371, descriptorIndex := 276, attributes := #[] }, { accessFlags := 25, nameIndex := 361, descriptorIndex := 362, attributes := #[] }, { accessFlags := 18, nameIndex := 275, descriptorIndex := 276, attributes := #[] }, { accessFlags := 25, nameIndex := 376, descriptorIndex := 377, attributes := #[] }, { accessFlags := 25, nameIndex := 379, descriptorIndex := 377, attributes := #[] }, { accessFlags := 26, nameIndex := 381, descriptorIndex := 276, attributes := #[] }])
  fields := #[{ name := "MIN_VALUE", type := .long, accessFlags := 25, slot := 0, constantValue := 0 }, { name := "MAX_VALUE", type := .long, accessFlags := 25, slot := 1, constantValue := 0 }, { name := "TYPE", type := (.object "java/lang/Class"), accessFlags := 25, slot := 2, constantValue := 0 }, { name := "value", type := .long, accessFlags := 18, slot := 0, constantValue := 0 }, { name := "SIZE", type := .int, accessFlags := 25, slot := 3, constantValue := 0 }, { name := "BYTES", type := .int, accessFlags := 25, slot := 4, constantValue := 0 }, { name := "serialVersionUID", type := .long, accessFlags := 26, slot := 5, constantValue := 0 }]
  methods := #[k8m0, k8m1, k8m2]
  instanceTypes := #[.long]
  staticTypes := #[.long, .long, (.object "java/lang/Class"), .int, .int, .long]
  resolved := Array.replicate 524 none
  statics := none }

def pool9 : Array CpInfo := pool [(2, .class_ 4), (1, u "java/lang/Object"), (0, u "<init>"), (0, u "()V"), (0, .class_ 8), (0, u "java/lang/Long"), (7, .class_ 18), (1, u "java/lang/Long$LongCache"), (0, u "$assertionsDisabled"), (0, u "Z"), (8, u "archivedCache"), (0, u "[Ljava/lang/Long;"), (7, u "cache")] 24

def k9m0 : Method := { name := "<init>", desc := "()V", sig := { parameters := [], returnType := none }, accessFlags := 2, code := none }
/-- java/lang/Long$LongCache -/
def k9 : Class := { plain "java/lang/Long$LongCache" (some 0) with
  accessFlags := 48
  interfaces := #[]
  cf := some (fileOf pool9 16 #[.nestHost 7] #[{ accessFlags := 2, nameIndex := 5, descriptorIndex := 6, attributes := #[] }] 48 2 #[] #[{ accessFlags := 24, nameIndex := 38, descriptorIndex := 30, attributes := #[] }, { accessFlags := 8, nameIndex := 29, descriptorIndex := 30, attributes := #[] }, { accessFlags := 4120, nameIndex := 19, descriptorIndex := 20, attributes := #[] }])
  fields := #[{ name := "cache", type := (.array (.object "java/lang/Long")), accessFlags := 24, slot := 0, constantValue := 0 }, { name := "archivedCache", type := (.array (.object "java/lang/Long")), accessFlags := 8, slot := 1, constantValue := 0 }, { name := "$assertionsDisabled", type := .boolean, accessFlags := 4120, slot := 2, constantValue := 0 }]
  methods := #[k9m0]
  instanceTypes := #[]
  staticTypes := #[(.array (.object "java/lang/Long")), (.array (.object "java/lang/Long")), .boolean]
  resolved := Array.replicate 63 none
  statics := some 0 }

def pool10 : Array CpInfo := pool [(1, .methodref 2 3), (0, .class_ 4), (0, .nameAndType 5 6), (0, u "java/lang/Object"), (0, u "<init>"), (0, u "()V"), (0, .class_ 8), (0, u "java/lang/Record")] 13

def k10c0 : Code := { maxStack := 1, maxLocals := 1, code := jdk_30_method_1_code, exceptionTable := #[], attributes := #[] }
def k10m0 : Method := { name := "<init>", desc := "()V", sig := { parameters := [], returnType := none }, accessFlags := 4, code := some k10c0 }
/-- java/lang/Record -/
def k10 : Class := { plain "java/lang/Record" (some 0) with
  accessFlags := 1057
  interfaces := #[]
  cf := some (fileOf pool10 7 #[] #[{ accessFlags := 4, nameIndex := 5, descriptorIndex := 6, attributes := #[] }] 1057 2 #[] #[])
  fields := #[]
  methods := #[k10m0]
  instanceTypes := #[]
  staticTypes := #[]
  resolved := Array.replicate 22 none
  statics := none }

def pool11 : Array CpInfo := pool [(1, .methodref 2 3), (0, .class_ 4), (0, .nameAndType 5 6), (0, u "java/lang/Record"), (0, u "<init>"), (0, u "()V"), (0, .methodref 8 9), (0, .class_ 10), (0, .nameAndType 11 12), (0, u "java/lang/Long"), (0, u "longValue"), (0, u "()J"), (15, .fieldref 29 30), (0, .class_ 31), (0, .nameAndType 32 33), (0, u "com/example/reading_buckets/readingbuckets/TimeRange"), (0, u "from"), (0, u "Ljava/lang/Long;"), (0, .fieldref 29 35), (0, .nameAndType 36 33), (0, u "to"), (14, u "(Ljava/lang/Long;Ljava/lang/Long;)V"), (2, u "ALL"), (0, u "Lcom/example/reading_buckets/readingbuckets/TimeRange;"), (5, u "(J)Z"), (0, u "endsAtOrBefore")] 34

def k11c0 : Code := { maxStack := 5, maxLocals := 3, code := prog_42_method_1_code, exceptionTable := #[], attributes := #[] }
def k11m0 : Method := { name := "<init>", desc := "(Ljava/lang/Long;Ljava/lang/Long;)V", sig := { parameters := [(.object "java/lang/Long"), (.object "java/lang/Long")], returnType := none }, accessFlags := 1, code := some k11c0 }
def k11c1 : Code := { maxStack := 4, maxLocals := 3, code := prog_42_method_3_code, exceptionTable := #[], attributes := #[] }
def k11m1 : Method := { name := "endsAtOrBefore", desc := "(J)Z", sig := { parameters := [.long], returnType := some .boolean }, accessFlags := 0, code := some k11c1 }
/-- com/example/reading_buckets/readingbuckets/TimeRange -/
def k11 : Class := { plain "com/example/reading_buckets/readingbuckets/TimeRange" (some 10) with
  accessFlags := 49
  interfaces := #[]
  cf := some (fileOf pool11 29 #[] #[{ accessFlags := 1, nameIndex := 5, descriptorIndex := 51, attributes := #[] }, { accessFlags := 0, nameIndex := 62, descriptorIndex := 61, attributes := #[] }] 49 2 #[] #[{ accessFlags := 18, nameIndex := 32, descriptorIndex := 33, attributes := #[] }, { accessFlags := 18, nameIndex := 36, descriptorIndex := 33, attributes := #[] }, { accessFlags := 25, nameIndex := 54, descriptorIndex := 55, attributes := #[] }])
  fields := #[{ name := "from", type := (.object "java/lang/Long"), accessFlags := 18, slot := 0, constantValue := 0 }, { name := "to", type := (.object "java/lang/Long"), accessFlags := 18, slot := 1, constantValue := 0 }, { name := "ALL", type := (.object "com/example/reading_buckets/readingbuckets/TimeRange"), accessFlags := 25, slot := 0, constantValue := 0 }]
  methods := #[k11m0, k11m1]
  instanceTypes := #[(.object "java/lang/Long"), (.object "java/lang/Long")]
  staticTypes := #[(.object "com/example/reading_buckets/readingbuckets/TimeRange")]
  resolved := Array.replicate 97 none
  statics := none }

def pool12 : Array CpInfo := pool [(1, u "java/lang/Cloneable"), (0, .class_ 1), (0, u "java/lang/Object"), (0, .class_ 3)] 3

/-- java/lang/Cloneable -/
def k12 : Class := { plain "java/lang/Cloneable" (some 0) with
  accessFlags := 1537
  interfaces := #[]
  cf := some (fileOf pool12 2 #[] #[] 1537 4 #[] #[])
  fields := #[]
  methods := #[]
  instanceTypes := #[]
  staticTypes := #[]
  resolved := Array.replicate 8 none
  statics := none }

/-- the primitive byte -/
def k13 : Class := { plain "byte" none with kind := .primitive 'B', accessFlags := 0x411 }
/-- [B -/
def k14 : Class := { plain "[B" (some 0) with kind := .array 13 .byte, interfaces := #[12, 3], accessFlags := 1041 }

/-- the primitive int -/
def k15 : Class := { plain "int" none with kind := .primitive 'I', accessFlags := 0x411 }
/-- [I -/
def k16 : Class := { plain "[I" (some 0) with kind := .array 15 .int, interfaces := #[12, 3], accessFlags := 1041 }

/-- [Ljava/lang/Long; -/
def k17 : Class := { plain "[Ljava/lang/Long;" (some 0) with kind := .array 8 (.object "java/lang/Long"), interfaces := #[12, 3], accessFlags := 1041 }

def heap : Heap := #[{ cls := 9, slots := #[.ref 1, .null, .int 0], vm := .statics 9 },
  { cls := 17, slots := #[.ref 2, .ref 3, .ref 4, .ref 5, .ref 6, .ref 7, .ref 8, .ref 9, .ref 10, .ref 11, .ref 12, .ref 13, .ref 14, .ref 15, .ref 16, .ref 17, .ref 18, .ref 19, .ref 20, .ref 21, .ref 22, .ref 23, .ref 24, .ref 25, .ref 26, .ref 27, .ref 28, .ref 29, .ref 30, .ref 31, .ref 32, .ref 33, .ref 34, .ref 35, .ref 36, .ref 37, .ref 38, .ref 39, .ref 40, .ref 41, .ref 42, .ref 43, .ref 44, .ref 45, .ref 46, .ref 47, .ref 48, .ref 49, .ref 50, .ref 51, .ref 52, .ref 53, .ref 54, .ref 55, .ref 56, .ref 57, .ref 58, .ref 59, .ref 60, .ref 61, .ref 62, .ref 63, .ref 64, .ref 65, .ref 66, .ref 67, .ref 68, .ref 69, .ref 70, .ref 71, .ref 72, .ref 73, .ref 74, .ref 75, .ref 76, .ref 77, .ref 78, .ref 79, .ref 80, .ref 81, .ref 82, .ref 83, .ref 84, .ref 85, .ref 86, .ref 87, .ref 88, .ref 89, .ref 90, .ref 91, .ref 92, .ref 93, .ref 94, .ref 95, .ref 96, .ref 97, .ref 98, .ref 99, .ref 100, .ref 101, .ref 102, .ref 103, .ref 104, .ref 105, .ref 106, .ref 107, .ref 108, .ref 109, .ref 110, .ref 111, .ref 112, .ref 113, .ref 114, .ref 115, .ref 116, .ref 117, .ref 118, .ref 119, .ref 120, .ref 121, .ref 122, .ref 123, .ref 124, .ref 125, .ref 126, .ref 127, .ref 128, .ref 129, .ref 130, .ref 131, .ref 132, .ref 133, .ref 134, .ref 135, .ref 136, .ref 137, .ref 138, .ref 139, .ref 140, .ref 141, .ref 142, .ref 143, .ref 144, .ref 145, .ref 146, .ref 147, .ref 148, .ref 149, .ref 150, .ref 151, .ref 152, .ref 153, .ref 154, .ref 155, .ref 156, .ref 157, .ref 158, .ref 159, .ref 160, .ref 161, .ref 162, .ref 163, .ref 164, .ref 165, .ref 166, .ref 167, .ref 168, .ref 169, .ref 170, .ref 171, .ref 172, .ref 173, .ref 174, .ref 175, .ref 176, .ref 177, .ref 178, .ref 179, .ref 180, .ref 181, .ref 182, .ref 183, .ref 184, .ref 185, .ref 186, .ref 187, .ref 188, .ref 189, .ref 190, .ref 191, .ref 192, .ref 193, .ref 194, .ref 195, .ref 196, .ref 197, .ref 198, .ref 199, .ref 200, .ref 201, .ref 202, .ref 203, .ref 204, .ref 205, .ref 206, .ref 207, .ref 208, .ref 209, .ref 210, .ref 211, .ref 212, .ref 213, .ref 214, .ref 215, .ref 216, .ref 217, .ref 218, .ref 219, .ref 220, .ref 221, .ref 222, .ref 223, .ref 224, .ref 225, .ref 226, .ref 227, .ref 228, .ref 229, .ref 230, .ref 231, .ref 232, .ref 233, .ref 234, .ref 235, .ref 236, .ref 237, .ref 238, .ref 239, .ref 240, .ref 241, .ref 242, .ref 243, .ref 244, .ref 245, .ref 246, .ref 247, .ref 248, .ref 249, .ref 250, .ref 251, .ref 252, .ref 253, .ref 254, .ref 255, .ref 256, .ref 257], vm := .none },
  { cls := 8, slots := #[.long (-128)], vm := .none },
  { cls := 8, slots := #[.long (-127)], vm := .none },
  { cls := 8, slots := #[.long (-126)], vm := .none },
  { cls := 8, slots := #[.long (-125)], vm := .none },
  { cls := 8, slots := #[.long (-124)], vm := .none },
  { cls := 8, slots := #[.long (-123)], vm := .none },
  { cls := 8, slots := #[.long (-122)], vm := .none },
  { cls := 8, slots := #[.long (-121)], vm := .none },
  { cls := 8, slots := #[.long (-120)], vm := .none },
  { cls := 8, slots := #[.long (-119)], vm := .none },
  { cls := 8, slots := #[.long (-118)], vm := .none },
  { cls := 8, slots := #[.long (-117)], vm := .none },
  { cls := 8, slots := #[.long (-116)], vm := .none },
  { cls := 8, slots := #[.long (-115)], vm := .none },
  { cls := 8, slots := #[.long (-114)], vm := .none },
  { cls := 8, slots := #[.long (-113)], vm := .none },
  { cls := 8, slots := #[.long (-112)], vm := .none },
  { cls := 8, slots := #[.long (-111)], vm := .none },
  { cls := 8, slots := #[.long (-110)], vm := .none },
  { cls := 8, slots := #[.long (-109)], vm := .none },
  { cls := 8, slots := #[.long (-108)], vm := .none },
  { cls := 8, slots := #[.long (-107)], vm := .none },
  { cls := 8, slots := #[.long (-106)], vm := .none },
  { cls := 8, slots := #[.long (-105)], vm := .none },
  { cls := 8, slots := #[.long (-104)], vm := .none },
  { cls := 8, slots := #[.long (-103)], vm := .none },
  { cls := 8, slots := #[.long (-102)], vm := .none },
  { cls := 8, slots := #[.long (-101)], vm := .none },
  { cls := 8, slots := #[.long (-100)], vm := .none },
  { cls := 8, slots := #[.long (-99)], vm := .none },
  { cls := 8, slots := #[.long (-98)], vm := .none },
  { cls := 8, slots := #[.long (-97)], vm := .none },
  { cls := 8, slots := #[.long (-96)], vm := .none },
  { cls := 8, slots := #[.long (-95)], vm := .none },
  { cls := 8, slots := #[.long (-94)], vm := .none },
  { cls := 8, slots := #[.long (-93)], vm := .none },
  { cls := 8, slots := #[.long (-92)], vm := .none },
  { cls := 8, slots := #[.long (-91)], vm := .none },
  { cls := 8, slots := #[.long (-90)], vm := .none },
  { cls := 8, slots := #[.long (-89)], vm := .none },
  { cls := 8, slots := #[.long (-88)], vm := .none },
  { cls := 8, slots := #[.long (-87)], vm := .none },
  { cls := 8, slots := #[.long (-86)], vm := .none },
  { cls := 8, slots := #[.long (-85)], vm := .none },
  { cls := 8, slots := #[.long (-84)], vm := .none },
  { cls := 8, slots := #[.long (-83)], vm := .none },
  { cls := 8, slots := #[.long (-82)], vm := .none },
  { cls := 8, slots := #[.long (-81)], vm := .none },
  { cls := 8, slots := #[.long (-80)], vm := .none },
  { cls := 8, slots := #[.long (-79)], vm := .none },
  { cls := 8, slots := #[.long (-78)], vm := .none },
  { cls := 8, slots := #[.long (-77)], vm := .none },
  { cls := 8, slots := #[.long (-76)], vm := .none },
  { cls := 8, slots := #[.long (-75)], vm := .none },
  { cls := 8, slots := #[.long (-74)], vm := .none },
  { cls := 8, slots := #[.long (-73)], vm := .none },
  { cls := 8, slots := #[.long (-72)], vm := .none },
  { cls := 8, slots := #[.long (-71)], vm := .none },
  { cls := 8, slots := #[.long (-70)], vm := .none },
  { cls := 8, slots := #[.long (-69)], vm := .none },
  { cls := 8, slots := #[.long (-68)], vm := .none },
  { cls := 8, slots := #[.long (-67)], vm := .none },
  { cls := 8, slots := #[.long (-66)], vm := .none },
  { cls := 8, slots := #[.long (-65)], vm := .none },
  { cls := 8, slots := #[.long (-64)], vm := .none },
  { cls := 8, slots := #[.long (-63)], vm := .none },
  { cls := 8, slots := #[.long (-62)], vm := .none },
  { cls := 8, slots := #[.long (-61)], vm := .none },
  { cls := 8, slots := #[.long (-60)], vm := .none },
  { cls := 8, slots := #[.long (-59)], vm := .none },
  { cls := 8, slots := #[.long (-58)], vm := .none },
  { cls := 8, slots := #[.long (-57)], vm := .none },
  { cls := 8, slots := #[.long (-56)], vm := .none },
  { cls := 8, slots := #[.long (-55)], vm := .none },
  { cls := 8, slots := #[.long (-54)], vm := .none },
  { cls := 8, slots := #[.long (-53)], vm := .none },
  { cls := 8, slots := #[.long (-52)], vm := .none },
  { cls := 8, slots := #[.long (-51)], vm := .none },
  { cls := 8, slots := #[.long (-50)], vm := .none },
  { cls := 8, slots := #[.long (-49)], vm := .none },
  { cls := 8, slots := #[.long (-48)], vm := .none },
  { cls := 8, slots := #[.long (-47)], vm := .none },
  { cls := 8, slots := #[.long (-46)], vm := .none },
  { cls := 8, slots := #[.long (-45)], vm := .none },
  { cls := 8, slots := #[.long (-44)], vm := .none },
  { cls := 8, slots := #[.long (-43)], vm := .none },
  { cls := 8, slots := #[.long (-42)], vm := .none },
  { cls := 8, slots := #[.long (-41)], vm := .none },
  { cls := 8, slots := #[.long (-40)], vm := .none },
  { cls := 8, slots := #[.long (-39)], vm := .none },
  { cls := 8, slots := #[.long (-38)], vm := .none },
  { cls := 8, slots := #[.long (-37)], vm := .none },
  { cls := 8, slots := #[.long (-36)], vm := .none },
  { cls := 8, slots := #[.long (-35)], vm := .none },
  { cls := 8, slots := #[.long (-34)], vm := .none },
  { cls := 8, slots := #[.long (-33)], vm := .none },
  { cls := 8, slots := #[.long (-32)], vm := .none },
  { cls := 8, slots := #[.long (-31)], vm := .none },
  { cls := 8, slots := #[.long (-30)], vm := .none },
  { cls := 8, slots := #[.long (-29)], vm := .none },
  { cls := 8, slots := #[.long (-28)], vm := .none },
  { cls := 8, slots := #[.long (-27)], vm := .none },
  { cls := 8, slots := #[.long (-26)], vm := .none },
  { cls := 8, slots := #[.long (-25)], vm := .none },
  { cls := 8, slots := #[.long (-24)], vm := .none },
  { cls := 8, slots := #[.long (-23)], vm := .none },
  { cls := 8, slots := #[.long (-22)], vm := .none },
  { cls := 8, slots := #[.long (-21)], vm := .none },
  { cls := 8, slots := #[.long (-20)], vm := .none },
  { cls := 8, slots := #[.long (-19)], vm := .none },
  { cls := 8, slots := #[.long (-18)], vm := .none },
  { cls := 8, slots := #[.long (-17)], vm := .none },
  { cls := 8, slots := #[.long (-16)], vm := .none },
  { cls := 8, slots := #[.long (-15)], vm := .none },
  { cls := 8, slots := #[.long (-14)], vm := .none },
  { cls := 8, slots := #[.long (-13)], vm := .none },
  { cls := 8, slots := #[.long (-12)], vm := .none },
  { cls := 8, slots := #[.long (-11)], vm := .none },
  { cls := 8, slots := #[.long (-10)], vm := .none },
  { cls := 8, slots := #[.long (-9)], vm := .none },
  { cls := 8, slots := #[.long (-8)], vm := .none },
  { cls := 8, slots := #[.long (-7)], vm := .none },
  { cls := 8, slots := #[.long (-6)], vm := .none },
  { cls := 8, slots := #[.long (-5)], vm := .none },
  { cls := 8, slots := #[.long (-4)], vm := .none },
  { cls := 8, slots := #[.long (-3)], vm := .none },
  { cls := 8, slots := #[.long (-2)], vm := .none },
  { cls := 8, slots := #[.long (-1)], vm := .none },
  { cls := 8, slots := #[.long (0)], vm := .none },
  { cls := 8, slots := #[.long (1)], vm := .none },
  { cls := 8, slots := #[.long (2)], vm := .none },
  { cls := 8, slots := #[.long (3)], vm := .none },
  { cls := 8, slots := #[.long (4)], vm := .none },
  { cls := 8, slots := #[.long (5)], vm := .none },
  { cls := 8, slots := #[.long (6)], vm := .none },
  { cls := 8, slots := #[.long (7)], vm := .none },
  { cls := 8, slots := #[.long (8)], vm := .none },
  { cls := 8, slots := #[.long (9)], vm := .none },
  { cls := 8, slots := #[.long (10)], vm := .none },
  { cls := 8, slots := #[.long (11)], vm := .none },
  { cls := 8, slots := #[.long (12)], vm := .none },
  { cls := 8, slots := #[.long (13)], vm := .none },
  { cls := 8, slots := #[.long (14)], vm := .none },
  { cls := 8, slots := #[.long (15)], vm := .none },
  { cls := 8, slots := #[.long (16)], vm := .none },
  { cls := 8, slots := #[.long (17)], vm := .none },
  { cls := 8, slots := #[.long (18)], vm := .none },
  { cls := 8, slots := #[.long (19)], vm := .none },
  { cls := 8, slots := #[.long (20)], vm := .none },
  { cls := 8, slots := #[.long (21)], vm := .none },
  { cls := 8, slots := #[.long (22)], vm := .none },
  { cls := 8, slots := #[.long (23)], vm := .none },
  { cls := 8, slots := #[.long (24)], vm := .none },
  { cls := 8, slots := #[.long (25)], vm := .none },
  { cls := 8, slots := #[.long (26)], vm := .none },
  { cls := 8, slots := #[.long (27)], vm := .none },
  { cls := 8, slots := #[.long (28)], vm := .none },
  { cls := 8, slots := #[.long (29)], vm := .none },
  { cls := 8, slots := #[.long (30)], vm := .none },
  { cls := 8, slots := #[.long (31)], vm := .none },
  { cls := 8, slots := #[.long (32)], vm := .none },
  { cls := 8, slots := #[.long (33)], vm := .none },
  { cls := 8, slots := #[.long (34)], vm := .none },
  { cls := 8, slots := #[.long (35)], vm := .none },
  { cls := 8, slots := #[.long (36)], vm := .none },
  { cls := 8, slots := #[.long (37)], vm := .none },
  { cls := 8, slots := #[.long (38)], vm := .none },
  { cls := 8, slots := #[.long (39)], vm := .none },
  { cls := 8, slots := #[.long (40)], vm := .none },
  { cls := 8, slots := #[.long (41)], vm := .none },
  { cls := 8, slots := #[.long (42)], vm := .none },
  { cls := 8, slots := #[.long (43)], vm := .none },
  { cls := 8, slots := #[.long (44)], vm := .none },
  { cls := 8, slots := #[.long (45)], vm := .none },
  { cls := 8, slots := #[.long (46)], vm := .none },
  { cls := 8, slots := #[.long (47)], vm := .none },
  { cls := 8, slots := #[.long (48)], vm := .none },
  { cls := 8, slots := #[.long (49)], vm := .none },
  { cls := 8, slots := #[.long (50)], vm := .none },
  { cls := 8, slots := #[.long (51)], vm := .none },
  { cls := 8, slots := #[.long (52)], vm := .none },
  { cls := 8, slots := #[.long (53)], vm := .none },
  { cls := 8, slots := #[.long (54)], vm := .none },
  { cls := 8, slots := #[.long (55)], vm := .none },
  { cls := 8, slots := #[.long (56)], vm := .none },
  { cls := 8, slots := #[.long (57)], vm := .none },
  { cls := 8, slots := #[.long (58)], vm := .none },
  { cls := 8, slots := #[.long (59)], vm := .none },
  { cls := 8, slots := #[.long (60)], vm := .none },
  { cls := 8, slots := #[.long (61)], vm := .none },
  { cls := 8, slots := #[.long (62)], vm := .none },
  { cls := 8, slots := #[.long (63)], vm := .none },
  { cls := 8, slots := #[.long (64)], vm := .none },
  { cls := 8, slots := #[.long (65)], vm := .none },
  { cls := 8, slots := #[.long (66)], vm := .none },
  { cls := 8, slots := #[.long (67)], vm := .none },
  { cls := 8, slots := #[.long (68)], vm := .none },
  { cls := 8, slots := #[.long (69)], vm := .none },
  { cls := 8, slots := #[.long (70)], vm := .none },
  { cls := 8, slots := #[.long (71)], vm := .none },
  { cls := 8, slots := #[.long (72)], vm := .none },
  { cls := 8, slots := #[.long (73)], vm := .none },
  { cls := 8, slots := #[.long (74)], vm := .none },
  { cls := 8, slots := #[.long (75)], vm := .none },
  { cls := 8, slots := #[.long (76)], vm := .none },
  { cls := 8, slots := #[.long (77)], vm := .none },
  { cls := 8, slots := #[.long (78)], vm := .none },
  { cls := 8, slots := #[.long (79)], vm := .none },
  { cls := 8, slots := #[.long (80)], vm := .none },
  { cls := 8, slots := #[.long (81)], vm := .none },
  { cls := 8, slots := #[.long (82)], vm := .none },
  { cls := 8, slots := #[.long (83)], vm := .none },
  { cls := 8, slots := #[.long (84)], vm := .none },
  { cls := 8, slots := #[.long (85)], vm := .none },
  { cls := 8, slots := #[.long (86)], vm := .none },
  { cls := 8, slots := #[.long (87)], vm := .none },
  { cls := 8, slots := #[.long (88)], vm := .none },
  { cls := 8, slots := #[.long (89)], vm := .none },
  { cls := 8, slots := #[.long (90)], vm := .none },
  { cls := 8, slots := #[.long (91)], vm := .none },
  { cls := 8, slots := #[.long (92)], vm := .none },
  { cls := 8, slots := #[.long (93)], vm := .none },
  { cls := 8, slots := #[.long (94)], vm := .none },
  { cls := 8, slots := #[.long (95)], vm := .none },
  { cls := 8, slots := #[.long (96)], vm := .none },
  { cls := 8, slots := #[.long (97)], vm := .none },
  { cls := 8, slots := #[.long (98)], vm := .none },
  { cls := 8, slots := #[.long (99)], vm := .none },
  { cls := 8, slots := #[.long (100)], vm := .none },
  { cls := 8, slots := #[.long (101)], vm := .none },
  { cls := 8, slots := #[.long (102)], vm := .none },
  { cls := 8, slots := #[.long (103)], vm := .none },
  { cls := 8, slots := #[.long (104)], vm := .none },
  { cls := 8, slots := #[.long (105)], vm := .none },
  { cls := 8, slots := #[.long (106)], vm := .none },
  { cls := 8, slots := #[.long (107)], vm := .none },
  { cls := 8, slots := #[.long (108)], vm := .none },
  { cls := 8, slots := #[.long (109)], vm := .none },
  { cls := 8, slots := #[.long (110)], vm := .none },
  { cls := 8, slots := #[.long (111)], vm := .none },
  { cls := 8, slots := #[.long (112)], vm := .none },
  { cls := 8, slots := #[.long (113)], vm := .none },
  { cls := 8, slots := #[.long (114)], vm := .none },
  { cls := 8, slots := #[.long (115)], vm := .none },
  { cls := 8, slots := #[.long (116)], vm := .none },
  { cls := 8, slots := #[.long (117)], vm := .none },
  { cls := 8, slots := #[.long (118)], vm := .none },
  { cls := 8, slots := #[.long (119)], vm := .none },
  { cls := 8, slots := #[.long (120)], vm := .none },
  { cls := 8, slots := #[.long (121)], vm := .none },
  { cls := 8, slots := #[.long (122)], vm := .none },
  { cls := 8, slots := #[.long (123)], vm := .none },
  { cls := 8, slots := #[.long (124)], vm := .none },
  { cls := 8, slots := #[.long (125)], vm := .none },
  { cls := 8, slots := #[.long (126)], vm := .none },
  { cls := 8, slots := #[.long (127)], vm := .none }]
def classes : Array Class := #[k0, k1, k2, k3, k4, k5, k6, k7, k8, k9, k10, k11, k12, k13, k14, k15, k16, k17]
def interned : List (Array UInt16 × Addr) := []
def slotsUsed : Nat := 515
def theMethod : MethodId := ⟨1, 1⟩
def args0 : Array Value := #[.long 5, .long 600, .long 7, .int 8]
def aboutOver (below : List Frame) : State where
  vm := { classes := classes, interned := interned.toArray }
  heap := heap
  slotsUsed := slotsUsed
  threads := #[{ frames := .invoking theMethod args0 :: below }]
def below0 : List Frame := [.native { method := ⟨0, 0⟩, args := #[] }]
def about1 : State := aboutOver below0
def p0 : Program := .bare "" "" ""
def e0 : Env := launch0.env 0 0 0
theorem w_frames : about1.frames = Frame.invoking theMethod args0 :: below0 := rfl
set_option maxRecDepth 65536 in
theorem w_args : argsFit about1.vm theMethod args0 = true := by decide +kernel
set_option maxRecDepth 65536 in
theorem w_heap : heapFits about1 = true := by decide +kernel
set_option maxRecDepth 65536 in
theorem w_runnable : about1.curStatus? = some .runnable := by decide +kernel
set_option maxRecDepth 65536 in
theorem w_alone : about1.alone = true := by decide +kernel
set_option maxRecDepth 65536 in
theorem w_named : about1.methodNamed? x = some theMethod := by decide +kernel
set_option maxRecDepth 65536 in
theorem w_hears : about1.hears theMethod below0 = true := by decide +kernel
set_option maxRecDepth 65536 in
theorem w_ripe : about1.ripe theMethod args0 below0 = true := by decide +kernel
theorem w_running : about1.status = .running := rfl
set_option maxRecDepth 65536 in
theorem w_room : about1.hasRoom e0.platform room_1 = true :=
  launch0.hasRoom_least _ room_1 (by decide +kernel) (by decide +kernel) (by decide +kernel) (by decide +kernel) (by decide +kernel) (by decide +kernel)
theorem allAtoms_all (ts : List Jvm.Cond) (a : Array Jvm.Value) (st : Jvm.State) : (allAtoms ts).before a st = ts.all (fun c => c.before a st) := by
  induction ts with
  | nil => rfl
  | cons c t ih =>
    show (Jvm.Cond.and c (allAtoms t)).before a st = _
    rw [Jvm.Cond.before_and, ih, List.all_cons]
def words1 : List Jvm.Cond := Jvm.Cond.code x code maxLocals ret :: tables_1
/-- a 'code' word, met by the world's own term for the bytes: nothing is compared byte by byte -/
theorem code_word {y : MethodName} {bytes : ByteArray} {mx : Nat} {rt : Option FieldType} {a : Array Value} {s : State} {m : MethodId} {meth : Method} {c : Code} (h1 : s.methodNamed? y = some m) (h2 : s.vm.method? m = some meth) (h3 : meth.code = some c) (h4 : c.code = bytes)
    (h5 : (c.maxLocals == mx && c.exceptionTable.isEmpty && decide (c.maxStack ≤ mostOperands) && decide (meth.sig.returnType = rt) && !meth.locks && decide (parseMethodDescriptor y.desc = some meth.sig)) = true) : (Jvm.Cond.code y bytes mx rt).before a s = true := by
  simp only [Bool.and_eq_true, beq_iff_eq, Bool.not_eq_true', decide_eq_true_eq] at h5
  obtain ⟨⟨⟨⟨⟨g1, g2⟩, g3⟩, g4⟩, g5⟩, g6⟩ := h5
  simp [Cond.before, Cond.holds, Cond.value, h1, h2, h3, h4, g1, g2, g3, g4, g5, g6]
def isCode : Jvm.Cond → Bool
  | .code _ _ _ _ => true
  | _ => false
theorem all_split {L : List Jvm.Cond} {P : Jvm.Cond → Bool} (h1 : L.all (fun c => isCode c || P c) = true) (h2 : ∀ c ∈ L.filter isCode, P c = true) : L.all P = true := by
  refine List.all_eq_true.mpr fun c hc => ?_
  have h := List.all_eq_true.mp h1 c hc
  rcases Bool.eq_false_or_eq_true (isCode c) with hi | hi
  · exact h2 c (List.mem_filter.mpr ⟨hc, hi⟩)
  · simpa [hi] using h
set_option maxRecDepth 65536 in
theorem w_c0 : (Jvm.Cond.code x code maxLocals ret).before args0 about1 = true := code_word (m := ⟨1, 1⟩) (meth := k1m1) (c := k1c1) (by decide +kernel) rfl rfl rfl (by decide +kernel)
set_option maxRecDepth 65536 in
theorem w_c1 : (Jvm.Cond.code ({ cls := "java/lang/Math", name := "min", desc := "(JJ)J" } : Jvm.MethodName) jdk_29_method_70_code (4 : Nat) (Option.some Jvm.ClassFile.FieldType.long)).before args0 about1 = true := code_word (m := ⟨2, 2⟩) (meth := k2m2) (c := k2c2) (by decide +kernel) rfl rfl rfl (by decide +kernel)
set_option maxRecDepth 65536 in
theorem w_c2 : (Jvm.Cond.code ({ cls := "java/lang/Math", name := "max", desc := "(JJ)J" } : Jvm.MethodName) jdk_29_method_66_code (4 : Nat) (Option.some Jvm.ClassFile.FieldType.long)).before args0 about1 = true := code_word (m := ⟨2, 1⟩) (meth := k2m1) (c := k2c1) (by decide +kernel) rfl rfl rfl (by decide +kernel)
set_option maxRecDepth 65536 in
theorem w_c3 : (Jvm.Cond.code ({ cls := "java/lang/Long", name := "valueOf", desc := "(J)Ljava/lang/Long;" } : Jvm.MethodName) jdk_35_method_24_code (3 : Nat) (Option.some (Jvm.ClassFile.FieldType.object "java/lang/Long"))).before args0 about1 = true := code_word (m := ⟨8, 0⟩) (meth := k8m0) (c := k8c0) (by decide +kernel) rfl rfl rfl (by decide +kernel)
set_option maxRecDepth 65536 in
theorem w_c4 : (Jvm.Cond.code ({ cls := "com/example/reading_buckets/readingbuckets/TimeRange", name := "<init>", desc := "(Ljava/lang/Long;Ljava/lang/Long;)V" } : Jvm.MethodName) prog_42_method_1_code (3 : Nat) (Option.none : Option Jvm.ClassFile.FieldType)).before args0 about1 = true := code_word (m := ⟨11, 0⟩) (meth := k11m0) (c := k11c0) (by decide +kernel) rfl rfl rfl (by decide +kernel)
set_option maxRecDepth 65536 in
theorem w_c5 : (Jvm.Cond.code ({ cls := "java/lang/Record", name := "<init>", desc := "()V" } : Jvm.MethodName) jdk_30_method_1_code (1 : Nat) (Option.none : Option Jvm.ClassFile.FieldType)).before args0 about1 = true := code_word (m := ⟨10, 0⟩) (meth := k10m0) (c := k10c0) (by decide +kernel) rfl rfl rfl (by decide +kernel)
set_option maxRecDepth 65536 in
theorem w_c6 : (Jvm.Cond.code ({ cls := "java/lang/Object", name := "<init>", desc := "()V" } : Jvm.MethodName) object_method_1_code (1 : Nat) (Option.none : Option Jvm.ClassFile.FieldType)).before args0 about1 = true := code_word (m := ⟨0, 0⟩) (meth := k0m0) (c := k0c0) (by decide +kernel) rfl rfl rfl (by decide +kernel)
set_option maxRecDepth 65536 in
theorem w_c7 : (Jvm.Cond.code ({ cls := "com/example/reading_buckets/readingbuckets/TimeRange", name := "endsAtOrBefore", desc := "(J)Z" } : Jvm.MethodName) prog_42_method_3_code (3 : Nat) (Option.some Jvm.ClassFile.FieldType.boolean)).before args0 about1 = true := code_word (m := ⟨11, 1⟩) (meth := k11m1) (c := k11c1) (by decide +kernel) rfl rfl rfl (by decide +kernel)
set_option maxRecDepth 65536 in
theorem w_c8 : (Jvm.Cond.code ({ cls := "java/lang/Long", name := "<init>", desc := "(J)V" } : Jvm.MethodName) jdk_35_method_26_code (3 : Nat) (Option.none : Option Jvm.ClassFile.FieldType)).before args0 about1 = true := code_word (m := ⟨8, 1⟩) (meth := k8m1) (c := k8c1) (by decide +kernel) rfl rfl rfl (by decide +kernel)
set_option maxRecDepth 65536 in
theorem w_c9 : (Jvm.Cond.code ({ cls := "java/lang/Number", name := "<init>", desc := "()V" } : Jvm.MethodName) jdk_18_method_1_code (1 : Nat) (Option.none : Option Jvm.ClassFile.FieldType)).before args0 about1 = true := code_word (m := ⟨4, 0⟩) (meth := k4m0) (c := k4c0) (by decide +kernel) rfl rfl rfl (by decide +kernel)
set_option maxRecDepth 65536 in
theorem w_c10 : (Jvm.Cond.code ({ cls := "java/lang/Long", name := "longValue", desc := "()J" } : Jvm.MethodName) jdk_35_method_31_code (1 : Nat) (Option.some Jvm.ClassFile.FieldType.long)).before args0 about1 = true := code_word (m := ⟨8, 2⟩) (meth := k8m2) (c := k8c2) (by decide +kernel) rfl rfl rfl (by decide +kernel)
def codes1 : List Jvm.Cond := [Jvm.Cond.code x code maxLocals ret, Jvm.Cond.code ({ cls := "java/lang/Math", name := "min", desc := "(JJ)J" } : Jvm.MethodName) jdk_29_method_70_code (4 : Nat) (Option.some Jvm.ClassFile.FieldType.long), Jvm.Cond.code ({ cls := "java/lang/Math", name := "max", desc := "(JJ)J" } : Jvm.MethodName) jdk_29_method_66_code (4 : Nat) (Option.some Jvm.ClassFile.FieldType.long), Jvm.Cond.code ({ cls := "java/lang/Long", name := "valueOf", desc := "(J)Ljava/lang/Long;" } : Jvm.MethodName) jdk_35_method_24_code (3 : Nat) (Option.some (Jvm.ClassFile.FieldType.object "java/lang/Long")), Jvm.Cond.code ({ cls := "com/example/reading_buckets/readingbuckets/TimeRange", name := "<init>", desc := "(Ljava/lang/Long;Ljava/lang/Long;)V" } : Jvm.MethodName) prog_42_method_1_code (3 : Nat) (Option.none : Option Jvm.ClassFile.FieldType), Jvm.Cond.code ({ cls := "java/lang/Record", name := "<init>", desc := "()V" } : Jvm.MethodName) jdk_30_method_1_code (1 : Nat) (Option.none : Option Jvm.ClassFile.FieldType), Jvm.Cond.code ({ cls := "java/lang/Object", name := "<init>", desc := "()V" } : Jvm.MethodName) object_method_1_code (1 : Nat) (Option.none : Option Jvm.ClassFile.FieldType), Jvm.Cond.code ({ cls := "com/example/reading_buckets/readingbuckets/TimeRange", name := "endsAtOrBefore", desc := "(J)Z" } : Jvm.MethodName) prog_42_method_3_code (3 : Nat) (Option.some Jvm.ClassFile.FieldType.boolean), Jvm.Cond.code ({ cls := "java/lang/Long", name := "<init>", desc := "(J)V" } : Jvm.MethodName) jdk_35_method_26_code (3 : Nat) (Option.none : Option Jvm.ClassFile.FieldType), Jvm.Cond.code ({ cls := "java/lang/Number", name := "<init>", desc := "()V" } : Jvm.MethodName) jdk_18_method_1_code (1 : Nat) (Option.none : Option Jvm.ClassFile.FieldType), Jvm.Cond.code ({ cls := "java/lang/Long", name := "longValue", desc := "()J" } : Jvm.MethodName) jdk_35_method_31_code (1 : Nat) (Option.some Jvm.ClassFile.FieldType.long)]
set_option maxRecDepth 65536 in
theorem codes_eq : words1.filter isCode = codes1 := rfl
theorem w_codes : ∀ c ∈ words1.filter isCode, c.before args0 about1 = true := by
  rw [codes_eq]
  intro c hc
  simp only [codes1, List.mem_cons, List.not_mem_nil, or_false] at hc
  rcases hc with rfl | rfl | rfl | rfl | rfl | rfl | rfl | rfl | rfl | rfl | rfl
  · exact w_c0
  · exact w_c1
  · exact w_c2
  · exact w_c3
  · exact w_c4
  · exact w_c5
  · exact w_c6
  · exact w_c7
  · exact w_c8
  · exact w_c9
  · exact w_c10
set_option maxRecDepth 65536 in
theorem w_t1 : (words1.take 24).all (fun c => isCode c || c.before args0 about1) = true := by decide +kernel
set_option maxRecDepth 65536 in
theorem w_t2 : ((words1.drop 24).take 24).all (fun c => isCode c || c.before args0 about1) = true := by decide +kernel
set_option maxRecDepth 65536 in
theorem w_t3 : ((words1.drop 24).drop 24).all (fun c => isCode c || c.before args0 about1) = true := by decide +kernel
theorem w_tables : (allAtoms (Jvm.Cond.code x code maxLocals ret :: tables_1)).before args0 about1 = true := by
  rw [allAtoms_all]
  show words1.all (fun c => c.before args0 about1) = true
  refine all_split ?_ w_codes
  rw [← List.take_append_drop 24 words1, List.all_append, w_t1, ← List.take_append_drop 24 (words1.drop 24), List.all_append, w_t2, w_t3]
  rfl
set_option maxRecDepth 65536 in
theorem w_rest : rest_1_c.before args0 about1 = true := by decide +kernel
set_option maxRecDepth 65536 in
theorem w_case : (Jvm.Cond.and given_1 narrow_1).before args0 about1 = true := by decide +kernel
theorem w_applies : (headSpec (Jvm.Cond.code x code maxLocals ret :: tables_1) room_1).applies x e0.platform about1 = true :=
  (Spec.applies_iff w_frames).mpr ⟨w_running, w_runnable, w_alone, w_named, w_hears, w_ripe, w_room, w_tables⟩
theorem atStart : AtStart classFile x code maxLocals ret World_1 tables_1 room_1 Calls_1 rest_1 Pre_1 launch0 p0 e0 about1 theMethod args0 below0 :=
  ⟨lists_1, trivial, launch0.admits_env _ _ _, launch0.least_env, fairChoices_fair.cas, fairChoices_fair.clock, w_frames, w_args, w_heap, w_applies, trivial, w_rest, w_case⟩
end start1
theorem witness_1 : WitnessClaimed_1 := ⟨start1.p0, start1.e0, start1.about1, start1.theMethod, start1.args0, start1.below0, start1.atStart⟩
end Jvm.Pilot.@@N@@
