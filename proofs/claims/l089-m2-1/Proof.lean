import JvmDerived
import JvmDerived.Pilot.@@N@@Statement
import JvmDerived.Pilot.@@N@@Code
set_option linter.unusedVariables false
set_option linter.unusedSimpArgs false
namespace Jvm.RoadKit
open Sem ClassFile Op Lib Jvm.Stand Jvm.Free Jvm.LawKit
section New
variable {p : Program} {l : Launch} {e : Env} {R : Room} {s : State} {m : MethodId} {args : Array Value} {below : List Frame} {meth : Method} {c : Code} {T : State} {locs : List Loc} {cells slots : Nat}
theorem retI (X : Stand p l e R s m args below meth c T locs cells slots) (hx : p.tables.exec = Jvm.exec) {pc : Nat} {Ls : Array Slot} {z : Int32} {rest : List Value} (hret : meth.sig.returnType = some .int) (hd : decode c.code pc = .ok (.ireturn, 1)) {fs : List Frame}
    (hl : ∀ (f : JFrame) (acts : List Action), f.method = m → f.locked = none → f.entered = [] → (doReturn e (T.setTop f) acts (some (.int z))).1 = T.setFrames fs) : Steps p.tables e below (T.setTop (mkF m pc Ls (.int z :: rest))) (T.setFrames fs) := by
  have hm' : T.vm.method? m = some meth := X.method'
  have hn : narrow .int (.int z) = .int z := rfl
  show Steps p.tables e below (T.setTop { method := m, pc := pc, locals := Ls, stack := _ :: rest, locked := none }) _
  jvm_step X.here [X.here.top, hx, hd, hm', hret, hn]
  first | (intro acts; rw [hl _ acts rfl rfl rfl]) | rw [hl _ _ rfl rfl rfl]
  exact Steps.refl _
/-- a boolean, byte, char or short that is one already -/
theorem own_retB (X : Stand p l e R s m args below meth c T locs cells slots) (hx : p.tables.exec = Jvm.exec) {pc : Nat} {Ls : Array Slot} {z : Int32} {t : FieldType} {rest : List Value} (hret : meth.sig.returnType = some t) (ht : t = .boolean ∨ t = .byte ∨ t = .char ∨ t = .short) (hz : nar t z = z)
    (hd : decode c.code pc = .ok (.ireturn, 1)) {fs : List Frame} (hl : ∀ (f : JFrame) (acts : List Action), f.method = m → f.locked = none → f.entered = [] → (doReturn e (T.setTop f) acts (some (.int z))).1 = T.setFrames fs) :
    Steps p.tables e below (T.setTop (mkF m pc Ls (.int z :: rest))) (T.setFrames fs) := retN X hx hret ht hd (by rw [hz]; exact hl)
theorem own_retL (X : Stand p l e R s m args below meth c T locs cells slots) (hx : p.tables.exec = Jvm.exec) {pc : Nat} {Ls : Array Slot} {z : Int64} {rest : List Value} (hret : meth.sig.returnType = some .long) (hd : decode c.code pc = .ok (.lreturn, 1)) {fs : List Frame}
    (hl : ∀ (f : JFrame) (acts : List Action), f.method = m → f.locked = none → f.entered = [] → (doReturn e (T.setTop f) acts (some (.long z))).1 = T.setFrames fs) : Steps p.tables e below (T.setTop (mkF m pc Ls (.long z :: rest))) (T.setFrames fs) :=
  retOut X hx hret rfl (Or.inr (Or.inl ⟨rfl, rfl, z, rfl⟩)) hd hl
end New
end Jvm.RoadKit
namespace Jvm.Pilot.@@N@@
open Jvm Jvm.ClassFile Sem Op Lib Jvm.Free Jvm.Stand Jvm.LawKit Jvm.RoadKit Bundle Jvm.Pilot.@@N@@.Jvm.D
theorem own_w {a0 : Array Value} {Z : State} (hw : ∀ d ∈ tables_1, d.before a0 Z = true) (i : Nat) {d : Jvm.Cond} (h : tables_1[i]? = some d) : d.before a0 Z = true := hw _ (List.mem_of_getElem? h)
/-- from A the walk comes to an end that P takes -/
abbrev own_R (tb : Tables) (e : Env) (below : List Frame) (P : State → Outcome → Prop) (A : State) : Prop := ∃ t o, Steps tb e below A t ∧ t.status = .running ∧ Ended t below o ∧ P t o
abbrev own_P (s : State) (Q : Option Value → Heap → List Loc → Prop) (k n : Nat) (t : State) (o : Outcome) : Prop := ∃ v L, o = .returned v ∧ Q v t.heap L ∧ FrameEnd s o t L k n
abbrev own_PW (s : State) (Q : Option Value → Heap → List Loc → Prop) (k n : Nat) (t : State) (o : Outcome) : Prop := ∃ v L, o = .returned v ∧ Q v t.heap L ∧ ReturnedEndW s o t L k n
theorem own_step {tb : Tables} {e : Env} {below : List Frame} {P : State → Outcome → Prop} {A A' : State} (st : ∀ t, Steps tb e below A' t → Steps tb e below A t) (h : own_R tb e below P A') : own_R tb e below P A := by
  obtain ⟨t, o, h1, h2⟩ := h
  exact ⟨t, o, st t h1, h2⟩
theorem own_go {tb : Tables} {e : Env} {below : List Frame} {P : State → Outcome → Prop} {A A' : State} (st : Steps tb e below A A') (h : own_R tb e below P A') : own_R tb e below P A := own_step (fun _ k => st.trans k) h
theorem own_f {tb : Tables} {e : Env} {below : List Frame} {P : State → Outcome → Prop} {A : State} (T : State) (g : JFrame) (st : ∀ t, Steps tb e below (T.setTop g) t → Steps tb e below A t) (h : own_R tb e below P (T.setTop g)) : own_R tb e below P A := own_step st h
theorem own_g {tb : Tables} {e : Env} {below : List Frame} {P : State → Outcome → Prop} {A : State} (T : State) (g : JFrame) (st : Steps tb e below A (T.setTop g)) (h : own_R tb e below P (T.setTop g)) : own_R tb e below P A := own_go st h
theorem own_lsw {tb : Tables} [Ours tb] {e : Env} {below : List Frame} {T target : State} {m : MethodId} {c : Code} {g : JFrame} (h : At T m c below) (hx : tb.exec = Jvm.exec) (hg : g.method = m) {df : Int} {ps : Array (Int × Int)} {len : Nat} {o : Int} {pc0 pc' : Nat} (hpc : g.pc = pc0) (hd : decode c.code g.pc = .ok (.lookupswitch df ps, len)) {i : Int32} {rest : List Value} (hs : g.stack = .int i :: rest)
    (hord : (ps.toList.zip (ps.toList.drop 1)).all (fun (a, next) => a.1 < next.1) = true) (hoff : lookupswitch.offset ps.toList df i.toInt = o) (ho : 0 ≤ (pc0 : Int) + o) (hp : ((pc0 : Int) + o).toNat = pc')
    (hr : Steps tb e below (T.setTop { g with pc := pc', stack := rest }) target) : Steps tb e below (T.setTop g) target := by
  subst hg hpc hp
  jvm_step h [h.top, hx, hd, hs, hoff, ho, lookupswitch.wp_chain]
  exact ⟨by simpa using hord, hr⟩
theorem own_len {p : Program} {l : Launch} {e : Env} {R : Room} {s : State} {m : MethodId} {args : Array Value} {below : List Frame} {meth : Method} {c : Code} {T target : State} {locs : List Loc} {cells slots : Nat} {Z : State} {h : Heap} {a : Addr} {k : ClassId} {ty : FieldType} {z : Int32} {vs : List Value} {dv : Value}
    (X : Stand p l e R s m args below meth c T locs cells slots) (hx : p.tables.exec = Jvm.exec) (hZ : Z.Warmed39 s.vm) (eT : T.heap = h) (F : Arv Z h a k ty z vs dv) {g : JFrame} (hg : g.method = m) {rest : List Value} (hs : g.stack = .ref a :: rest) (hd : decode c.code g.pc = .ok (.arraylength, 1))
    (hr : Steps p.tables e below (T.setTop { g with pc := g.pc + 1, stack := .int z :: rest }) target) : Steps p.tables e below (T.setTop g) target := by
  obtain ⟨cl, A, -, S, q, -⟩ := F
  exact X.arraylength hx (by rw [eT]; exact A.1) (State.isArrayOf_alike hZ.alike A.2.1) hg hs hd _ (by rw [len_of S q]; exact hr)
theorem own_arvnew {Z : State} {h : Heap} {a : Addr} {k : ClassId} {ty : FieldType} {z : Int32} (n : Nat) (A : Arr Z h a (newA k ty z) ty) (q : ¬ z < 0) : Arv Z h a k ty z (List.replicate n (defaultValue ty)) (defaultValue ty) := (Arv.new A q).pad fun i => pad_rep [] _ n i
theorem own_narB (x : Int32) : nar .byte x.toInt8.toInt32 = x.toInt8.toInt32 := by show x.toInt8.toInt32.toInt8.toInt32 = _; simp
theorem own_narC (x : Int32) : nar .char x.toUInt32.toUInt16.toUInt32.toInt32 = x.toUInt32.toUInt16.toUInt32.toInt32 := by show x.toUInt32.toUInt16.toUInt32.toInt32.toUInt32.toUInt16.toUInt32.toInt32 = _; simp only [UInt32.toUInt32_toInt32, UInt16.toUInt16_toUInt32]
theorem own_fitB (x : Int32) : fits .byte (.int (nar .byte x)) = true := fits_nar_byte x
theorem own_nb {z : Int32} (h : z = 0 ∨ z = 1) : narrow .boolean (.int z) = .int z := by rcases h with rfl | rfl <;> rfl
theorem own_fb {z : Int32} (h : z = 0 ∨ z = 1) : fits .boolean (.int z) = true := by rcases h with rfl | rfl <;> rfl
theorem own_nar {z : Int32} (h : z = 0 ∨ z = 1) : nar .boolean z = z := by rcases h with rfl | rfl <;> rfl
def own_io (a b c d : Int32) : Int32 := if a = c ∧ b = d then 1 else 0
theorem own_or1 (a : Int32) : ¬ (a ||| (1 : Int32)) = 0 := by
  intro h
  have h1 := congrArg (fun z : Int32 => z.toBitVec.getLsbD 0) h
  simp [Int32.toBitVec_or] at h1
theorem own_xor (s a : Int32) : ¬ s = (s ^^^ (a ||| (1 : Int32))) := by
  intro h
  have h1 : s ^^^ s = s ^^^ (s ^^^ (a ||| (1 : Int32))) := congrArg (fun z => s ^^^ z) h
  rw [← Int32.xor_assoc, Int32.xor_self, Int32.zero_xor] at h1
  exact own_or1 a h1.symm
theorem own_law {p1 p2 k1 k2 x1 y1 z1 z2 z3 : Int32} (jx0 : z1 = 0 → x1 = (p1 ^^^ (k1 ||| (1 : Int32)))) (jx1 : ¬ z1 = 0 → x1 = p1) (jy0 : z2 = 0 → y1 = (p2 ^^^ (k2 ||| (1 : Int32)))) (jy1 : ¬ z2 = 0 → y1 = p2)
    (jz0 : z1 = 0 → z3 = 0) (jz1 : z2 = 0 → z3 = 0) (jz2 : ¬ z1 = 0 → ¬ z2 = 0 → z3 = 1) : (own_io p1 p2 x1 y1) = z3 := by
  by_cases a : z1 = 0
  · rw [jz0 a, jx0 a, own_io, if_neg (fun z => own_xor _ _ z.1)]
  · by_cases b : z2 = 0
    · rw [jz1 b, jy0 b, own_io, if_neg (fun z => own_xor _ _ z.2)]
    · rw [jz2 a b, jx1 a, jy1 b, own_io, if_pos ⟨rfl, rfl⟩]
theorem pd__I : parseMethodDescriptor "()I" = some ⟨[], some .int⟩ := by decide +kernel
theorem pd__V : parseMethodDescriptor "()V" = some ⟨[], none⟩ := by decide +kernel
theorem pd__III_V : parseMethodDescriptor "(III)V" = some ⟨[.int, .int, .int], none⟩ := by decide +kernel
theorem pd__IIJ_V : parseMethodDescriptor "(IIJ)V" = some ⟨[.int, .int, .long], none⟩ := by decide +kernel
theorem pd__Lcom_example_reading_buckets_readingbuckets_SeriesFieldId_Z : parseMethodDescriptor "(Lcom/example/reading_buckets/readingbuckets/SeriesFieldId;)Z" = some ⟨[(.object "com/example/reading_buckets/readingbuckets/SeriesFieldId")], some .boolean⟩ := by decide +kernel
theorem d2_0 : decode jdk_30_method_1_code 0 = .ok (.aload_n 0, 1) := by decide +kernel
theorem d2_1 : decode jdk_30_method_1_code 1 = .ok (.invokespecial 1, 3) := by decide +kernel
theorem d2_4 : decode jdk_30_method_1_code 4 = .ok (.return_, 1) := by decide +kernel
theorem pn_2 : plainName "java/lang/Record" = true := by first | (simp [plainName, overriddenIn]; done) | decide +kernel
theorem ef_2 (m : MethodId) (x0 : Addr) : entryFrame m #[(.ref x0)] 1 = mkF m 0 #[.val (.ref x0)] [] := by first | (simp [entryFrame, mkF, argsToLocals, Value.category]; done) | rfl
def Q2 (Z : State) (a1 : Addr) (h0 : Heap) (n0 : Nat) (v : Option Value) (h : Heap) (L : List Loc) : Prop := v = none ∧ Fr n0 L ∧ h = h0
set_option maxRecDepth 65536 in
set_option maxHeartbeats 40000000 in
theorem rm2 (l : Launch) (Z : State) (a0 : Array Value) (hw : ∀ d ∈ tables_1, d.before a0 Z = true) (ws : List Jvm.Cond) (a1 : Addr) (h0 : Heap) (n0 : Nat) (Z0 : n0 ≤ h0.size) :
    MetFree l (⟨"java/lang/Record", "<init>", "()V"⟩ : MethodName) (head1 (Jvm.Cond.code (⟨"java/lang/Record", "<init>", "()V"⟩ : MethodName) jdk_30_method_1_code 1 none :: ws) ({ frames := 1, cells := 0, slots := 0, locals := 12 } : Room)) (fun a U => a = #[(.ref a1)] ∧ Z.Warmed39 U.vm ∧ U.heap = h0) (fun _ _ _ _ _ => True) (fun _ U o U' => ∃ v L, o = .returned v ∧ Q2 Z a1 h0 n0 v U'.heap L ∧ FrameEnd U o U' L ({ frames := 1, cells := 0, slots := 0, locals := 12 } : Room).cells ({ frames := 1, cells := 0, slots := 0, locals := 12 } : Room).slots) := by
  refine MetFree.of_bodySF (plainFor_of_name pn_2) hisR ?_
  intro p e s m args below meth c s₁ Bd hml0 hP hK
  obtain ⟨rfl, hZ, hh⟩ := hP
  have hx := Bd.exec
  have hby := Bd.bytes
  have hml : c.maxLocals = 1 := hml0
  have hown : s.vm.findClass "java/lang/Record" = some m.cls := findClass_of_methodNamed Bd.named
  have hnm := (name_of_methodNamed Bd.named Bd.method).1
  have X0 : Stand p l e ({ frames := 1, cells := 0, slots := 0, locals := 12 } : Room) s m #[(.ref a1)] below meth c s₁ [] 0 0 := Stand.of_body Bd
  have e0 : s₁.heap = h0 := by rw [← hh, Bd.state]; rfl
  have N0 := Fr.nil n0
  show own_R p.tables e below (own_P s (Q2 Z a1 h0 n0) ({ frames := 1, cells := 0, slots := 0, locals := 12 } : Room).cells ({ frames := 1, cells := 0, slots := 0, locals := 12 } : Room).slots) (s₁.setTop (entryFrame m #[(.ref a1)] 1))
  refine own_f s₁ (mkF m 0 #[.val (.ref a1)] []) (fun t k => castTop (ef_2 m a1) k) ?_
  refine own_f s₁ (mkF m 1 #[.val (.ref a1)] [(.ref a1)]) (fun t k => XS.aloadN X0.here hx rfl (hb hby d2_0) rfl rfl k) ?_
  obtain ⟨T1, X1, e1, st1⟩ := initO X0 hx hZ hown (own_w hw 11 rfl) (own_w hw 12 rfl) (own_w hw 13 rfl) e0 (g := (mkF m 1 #[.val (.ref a1)] [(.ref a1)])) rfl (by rw [hml]; rfl) rfl (hb hby d2_1) (by decide) (W := 0) (by show 2 * 0 + _ ≤ _; exact Nat.le_of_eq rfl) (by decide)
  refine own_f T1 (mkF m 4 #[.val (.ref a1)] []) st1 ?_
  obtain ⟨fs, hr, hrun, hended, hW, hsame⟩ := X1.leave (v := none) (fun _ => rfl)
  refine ⟨_, _, X1.returnOut hx Bd.returns (hb hby d2_4) hr, hrun, hended, _, _, rfl, ?_, ⟨_, rfl⟩, hW, hsame.mono (by decide) (by decide)⟩
  show Q2 Z a1 h0 n0 _ T1.heap _
  rw [e1]
  exact ⟨rfl, N0, rfl⟩
theorem d1_0 : decode prog_3_method_1_code 0 = .ok (.aload_n 0, 1) := by decide +kernel
theorem d1_1 : decode prog_3_method_1_code 1 = .ok (.invokespecial 1, 3) := by decide +kernel
theorem d1_4 : decode prog_3_method_1_code 4 = .ok (.aload_n 0, 1) := by decide +kernel
theorem d1_5 : decode prog_3_method_1_code 5 = .ok (.iload_n 1, 1) := by decide +kernel
theorem d1_6 : decode prog_3_method_1_code 6 = .ok (.putfield 7, 3) := by decide +kernel
theorem d1_9 : decode prog_3_method_1_code 9 = .ok (.aload_n 0, 1) := by decide +kernel
theorem d1_10 : decode prog_3_method_1_code 10 = .ok (.iload_n 2, 1) := by decide +kernel
theorem d1_11 : decode prog_3_method_1_code 11 = .ok (.putfield 13, 3) := by decide +kernel
theorem d1_14 : decode prog_3_method_1_code 14 = .ok (.aload_n 0, 1) := by decide +kernel
theorem d1_15 : decode prog_3_method_1_code 15 = .ok (.lload_n 3, 1) := by decide +kernel
theorem d1_16 : decode prog_3_method_1_code 16 = .ok (.putfield 16, 3) := by decide +kernel
theorem d1_19 : decode prog_3_method_1_code 19 = .ok (.return_, 1) := by decide +kernel
theorem pn_1 : plainName "com/example/reading_buckets/readingbuckets/BucketKey" = true := by first | (simp [plainName, overriddenIn]; done) | decide +kernel
theorem ef_1 (m : MethodId) (x0 : Addr) (x1 : Int32) (x2 : Int32) (x3 : Int64) : entryFrame m #[(.ref x0), (.int x1), (.int x2), (.long x3)] 5 = mkF m 0 #[.val (.ref x0), .val (.int x1), .val (.int x2), .val (.long x3), .second] [] := by first | (simp [entryFrame, mkF, argsToLocals, Value.category]; done) | rfl
def Q1 (Z : State) (a1 : Addr) (p2 : Int32) (p3 : Int32) (p4 : Int64) (u0 : Value) (u1 : Value) (u2 : Value) (h0 : Heap) (n0 : Nat) (v : Option Value) (h : Heap) (L : List Loc) : Prop := v = none ∧ Fr n0 L ∧ Keep h0 h [a1] ∧ Exa Z h a1 "com/example/reading_buckets/readingbuckets/BucketKey" ∧ Fld Z h a1 "com/example/reading_buckets/readingbuckets/BucketKey" "series" "I" (.int p2) ∧ Fld Z h a1 "com/example/reading_buckets/readingbuckets/BucketKey" "field" "I" (.int p3) ∧ Fld Z h a1 "com/example/reading_buckets/readingbuckets/BucketKey" "time" "J" (.long p4)
set_option maxRecDepth 65536 in
set_option maxHeartbeats 40000000 in
theorem rm1 (l : Launch) (Z : State) (a0 : Array Value) (hw : ∀ d ∈ tables_1, d.before a0 Z = true) (ws : List Jvm.Cond) (a1 : Addr) (p2 : Int32) (p3 : Int32) (p4 : Int64) (u0 : Value) (u1 : Value) (u2 : Value) (h0 : Heap) (n0 : Nat) (Z0 : n0 ≤ h0.size) (F0 : Exa Z h0 a1 "com/example/reading_buckets/readingbuckets/BucketKey") (F1 : Fld Z h0 a1 "com/example/reading_buckets/readingbuckets/BucketKey" "series" "I" u0) (F2 : Fld Z h0 a1 "com/example/reading_buckets/readingbuckets/BucketKey" "field" "I" u1) (F3 : Fld Z h0 a1 "com/example/reading_buckets/readingbuckets/BucketKey" "time" "J" u2) (ge_a1 : n0 ≤ a1) :
    MetFree l (⟨"com/example/reading_buckets/readingbuckets/BucketKey", "<init>", "(IIJ)V"⟩ : MethodName) (head1 (Jvm.Cond.code (⟨"com/example/reading_buckets/readingbuckets/BucketKey", "<init>", "(IIJ)V"⟩ : MethodName) prog_3_method_1_code 5 none :: ws) ({ frames := 2, cells := 0, slots := 0, locals := 24 } : Room)) (fun a U => a = #[(.ref a1), (.int p2), (.int p3), (.long p4)] ∧ Z.Warmed39 U.vm ∧ U.heap = h0) (fun _ _ _ _ _ => True) (fun _ U o U' => ∃ v L, o = .returned v ∧ Q1 Z a1 p2 p3 p4 u0 u1 u2 h0 n0 v U'.heap L ∧ FrameEnd U o U' L ({ frames := 2, cells := 0, slots := 0, locals := 24 } : Room).cells ({ frames := 2, cells := 0, slots := 0, locals := 24 } : Room).slots) := by
  refine MetFree.of_bodySF (plainFor_of_name pn_1) hisR ?_
  intro p e s m args below meth c s₁ Bd hml0 hP hK
  obtain ⟨rfl, hZ, hh⟩ := hP
  have hx := Bd.exec
  have hby := Bd.bytes
  have hml : c.maxLocals = 5 := hml0
  have hown : s.vm.findClass "com/example/reading_buckets/readingbuckets/BucketKey" = some m.cls := findClass_of_methodNamed Bd.named
  have hnm := (name_of_methodNamed Bd.named Bd.method).1
  have X0 : Stand p l e ({ frames := 2, cells := 0, slots := 0, locals := 24 } : Room) s m #[(.ref a1), (.int p2), (.int p3), (.long p4)] below meth c s₁ [] 0 0 := Stand.of_body Bd
  have e0 : s₁.heap = h0 := by rw [← hh, Bd.state]; rfl
  have N0 := Fr.nil n0
  show own_R p.tables e below (own_P s (Q1 Z a1 p2 p3 p4 u0 u1 u2 h0 n0) ({ frames := 2, cells := 0, slots := 0, locals := 24 } : Room).cells ({ frames := 2, cells := 0, slots := 0, locals := 24 } : Room).slots) (s₁.setTop (entryFrame m #[(.ref a1), (.int p2), (.int p3), (.long p4)] 5))
  refine own_f s₁ (mkF m 0 #[.val (.ref a1), .val (.int p2), .val (.int p3), .val (.long p4), .second] []) (fun t k => castTop (ef_1 m a1 p2 p3 p4) k) ?_
  refine own_f s₁ (mkF m 1 #[.val (.ref a1), .val (.int p2), .val (.int p3), .val (.long p4), .second] [(.ref a1)]) (fun t k => XS.aloadN X0.here hx rfl (hb hby d1_0) rfl rfl k) ?_
  obtain ⟨_, _, ⟨T1, Lq1, kq_1, nq_1⟩, -, X1, ⟨Lc1, hQ1, lq1, yq1, zq1⟩, st1⟩ := X0.specialBack hx (y := (⟨"java/lang/Record", "<init>", "()V"⟩ : MethodName)) rfl hown (mvT hZ (own_w hw 6 rfl)) (mvT hZ (own_w hw 7 rfl)) (mvT hZ (own_w hw 10 rfl)) (by decide) (backOf (W := 0) (rm2 l Z a0 hw [] a1 h0 n0 Z0 ) hZ (own_w hw 10 rfl) (own_w hw 9 rfl) (by decide) (by decide)) (g := (mkF m 1 #[.val (.ref a1), .val (.int p2), .val (.int p3), .val (.long p4), .second] [(.ref a1)])) rfl (by rw [hml]; rfl) (Steps.refl _) (a := a1) (argsL := []) (rest := []) (lenOf pd__V rfl) rfl (by show 2 * 0 + _ ≤ _; exact Nat.le_of_eq rfl) (hb hby d1_1) (fun _ _ => ⟨rfl, e0, (by decide : 0 + 0 ≤ _), (by decide : 0 + 0 ≤ _)⟩)
  dsimp only [Pt.U, Pt.locs, Pt.cells, Pt.slots] at X1 lq1 yq1 zq1 st1 hQ1
  subst lq1 yq1 zq1
  obtain ⟨h1, e1⟩ : ∃ z, T1.heap = z := ⟨_, rfl⟩
  rw [e1] at hQ1
  unfold Q2 at hQ1
  obtain ⟨rfl, Nq1, qh1⟩ := hQ1
  have N1 := Fr.app N0 Nq1
  rw [qh1] at e1
  refine own_g T1 (mkF m 4 #[.val (.ref a1), .val (.int p2), .val (.int p3), .val (.long p4), .second] []) st1 ?_
  refine own_f T1 (mkF m 5 #[.val (.ref a1), .val (.int p2), .val (.int p3), .val (.long p4), .second] [(.ref a1)]) (fun t k => XS.aloadN X1.here hx rfl (hb hby d1_4) rfl rfl k) ?_
  refine own_f T1 (mkF m 6 #[.val (.ref a1), .val (.int p2), .val (.int p3), .val (.long p4), .second] [(.int p2), (.ref a1)]) (fun t k => XS.iloadN X1.here hx rfl (hb hby d1_5) rfl k) ?_
  obtain ⟨T2, h2, X2, e2, W2, st2⟩ := putF X1 hx hZ hown (host := "") (Or.inl (own_w hw 14 rfl)) Via.refl e1 F1 F0 (Or.inr ⟨(own_w hw 15 rfl), rfl, hnm⟩) (own_w hw 1 rfl) (ty := .int) (by decide) rfl rfl (g := (mkF m 6 #[.val (.ref a1), .val (.int p2), .val (.int p3), .val (.long p4), .second] [(.int p2), (.ref a1)])) rfl rfl (hb hby d1_6)
  have N2 := Fr.snoc X2 N1 ge_a1
  have Zs2 : n0 ≤ h2.size := by rw [W2.size]; exact Z0
  have K2 : Keep h0 h2 [a1] := (Keep.refl h0 [a1]).wr W2 (Or.inl (by simp))
  have F_3 := F0.wr W2
  have F_4 := F1.same W2
  have F_5 := F2.other W2 (Or.inr (slot_ne (Or.inr (own_w hw 17 rfl)) (Or.inr (own_w hw 15 rfl)) (by decide) (t := .int) (t' := .int) (by decide) (by decide)))
  have F_6 := F3.other W2 (Or.inr (slot_ne (Or.inr (own_w hw 19 rfl)) (Or.inr (own_w hw 15 rfl)) (by decide) (t := .long) (t' := .int) (by decide) (by decide)))
  refine own_f T2 (mkF m 9 #[.val (.ref a1), .val (.int p2), .val (.int p3), .val (.long p4), .second] []) st2 ?_
  refine own_f T2 (mkF m 10 #[.val (.ref a1), .val (.int p2), .val (.int p3), .val (.long p4), .second] [(.ref a1)]) (fun t k => XS.aloadN X2.here hx rfl (hb hby d1_9) rfl rfl k) ?_
  refine own_f T2 (mkF m 11 #[.val (.ref a1), .val (.int p2), .val (.int p3), .val (.long p4), .second] [(.int p3), (.ref a1)]) (fun t k => XS.iloadN X2.here hx rfl (hb hby d1_10) rfl k) ?_
  obtain ⟨T7, h7, X7, e7, W7, st7⟩ := putF X2 hx hZ hown (host := "") (Or.inl (own_w hw 16 rfl)) Via.refl e2 F_5 F_3 (Or.inr ⟨(own_w hw 17 rfl), rfl, hnm⟩) (own_w hw 1 rfl) (ty := .int) (by decide) rfl rfl (g := (mkF m 11 #[.val (.ref a1), .val (.int p2), .val (.int p3), .val (.long p4), .second] [(.int p3), (.ref a1)])) rfl rfl (hb hby d1_11)
  have N7 := Fr.snoc X7 N2 ge_a1
  have Zs7 : n0 ≤ h7.size := by rw [W7.size]; exact Zs2
  have K7 : Keep h0 h7 [a1] := K2.wr W7 (Or.inl (by simp))
  have F_8 := F_3.wr W7
  have F_9 := F_4.other W7 (Or.inr (slot_ne (Or.inr (own_w hw 15 rfl)) (Or.inr (own_w hw 17 rfl)) (by decide) (t := .int) (t' := .int) (by decide) (by decide)))
  have F_10 := F_5.same W7
  have F_11 := F_6.other W7 (Or.inr (slot_ne (Or.inr (own_w hw 19 rfl)) (Or.inr (own_w hw 17 rfl)) (by decide) (t := .long) (t' := .int) (by decide) (by decide)))
  refine own_f T7 (mkF m 14 #[.val (.ref a1), .val (.int p2), .val (.int p3), .val (.long p4), .second] []) st7 ?_
  refine own_f T7 (mkF m 15 #[.val (.ref a1), .val (.int p2), .val (.int p3), .val (.long p4), .second] [(.ref a1)]) (fun t k => XS.aloadN X7.here hx rfl (hb hby d1_14) rfl rfl k) ?_
  refine own_f T7 (mkF m 16 #[.val (.ref a1), .val (.int p2), .val (.int p3), .val (.long p4), .second] [(.long p4), (.ref a1)]) (fun t k => XS.lloadN X7.here hx rfl (hb hby d1_15) rfl k) ?_
  obtain ⟨T12, h12, X12, e12, W12, st12⟩ := putF X7 hx hZ hown (host := "") (Or.inl (own_w hw 18 rfl)) Via.refl e7 F_11 F_8 (Or.inr ⟨(own_w hw 19 rfl), rfl, hnm⟩) (own_w hw 1 rfl) (ty := .long) (by decide) rfl rfl (g := (mkF m 16 #[.val (.ref a1), .val (.int p2), .val (.int p3), .val (.long p4), .second] [(.long p4), (.ref a1)])) rfl rfl (hb hby d1_16)
  have N12 := Fr.snoc X12 N7 ge_a1
  have Zs12 : n0 ≤ h12.size := by rw [W12.size]; exact Zs7
  have K12 : Keep h0 h12 [a1] := K7.wr W12 (Or.inl (by simp))
  have F_13 := F_8.wr W12
  have F_14 := F_9.other W12 (Or.inr (slot_ne (Or.inr (own_w hw 15 rfl)) (Or.inr (own_w hw 19 rfl)) (by decide) (t := .int) (t' := .long) (by decide) (by decide)))
  have F_15 := F_10.other W12 (Or.inr (slot_ne (Or.inr (own_w hw 17 rfl)) (Or.inr (own_w hw 19 rfl)) (by decide) (t := .int) (t' := .long) (by decide) (by decide)))
  have F_16 := F_11.same W12
  refine own_f T12 (mkF m 19 #[.val (.ref a1), .val (.int p2), .val (.int p3), .val (.long p4), .second] []) st12 ?_
  obtain ⟨fs, hr, hrun, hended, hW, hsame⟩ := X12.leave (v := none) (fun _ => rfl)
  refine ⟨_, _, X12.returnOut hx Bd.returns (hb hby d1_19) hr, hrun, hended, _, _, rfl, ?_, ⟨_, rfl⟩, hW, hsame.mono (by decide) (by decide)⟩
  show Q1 Z a1 p2 p3 p4 u0 u1 u2 h0 n0 _ T12.heap _
  rw [e12]
  exact ⟨rfl, N12, K12, F_13, F_14, F_15, F_16⟩
theorem d3_0 : decode prog_35_method_1_code 0 = .ok (.aload_n 0, 1) := by decide +kernel
theorem d3_1 : decode prog_35_method_1_code 1 = .ok (.invokespecial 1, 3) := by decide +kernel
theorem d3_4 : decode prog_35_method_1_code 4 = .ok (.aload_n 0, 1) := by decide +kernel
theorem d3_5 : decode prog_35_method_1_code 5 = .ok (.iload_n 1, 1) := by decide +kernel
theorem d3_6 : decode prog_35_method_1_code 6 = .ok (.putfield 7, 3) := by decide +kernel
theorem d3_9 : decode prog_35_method_1_code 9 = .ok (.aload_n 0, 1) := by decide +kernel
theorem d3_10 : decode prog_35_method_1_code 10 = .ok (.iload_n 2, 1) := by decide +kernel
theorem d3_11 : decode prog_35_method_1_code 11 = .ok (.putfield 13, 3) := by decide +kernel
theorem d3_14 : decode prog_35_method_1_code 14 = .ok (.aload_n 0, 1) := by decide +kernel
theorem d3_15 : decode prog_35_method_1_code 15 = .ok (.iload_n 3, 1) := by decide +kernel
theorem d3_16 : decode prog_35_method_1_code 16 = .ok (.putfield 16, 3) := by decide +kernel
theorem d3_19 : decode prog_35_method_1_code 19 = .ok (.return_, 1) := by decide +kernel
theorem pn_3 : plainName "com/example/reading_buckets/readingbuckets/SeriesFieldId" = true := by first | (simp [plainName, overriddenIn]; done) | decide +kernel
theorem ef_3 (m : MethodId) (x0 : Addr) (x1 : Int32) (x2 : Int32) (x3 : Int32) : entryFrame m #[(.ref x0), (.int x1), (.int x2), (.int x3)] 4 = mkF m 0 #[.val (.ref x0), .val (.int x1), .val (.int x2), .val (.int x3)] [] := by first | (simp [entryFrame, mkF, argsToLocals, Value.category]; done) | rfl
def Q3 (Z : State) (a1 : Addr) (p2 : Int32) (p3 : Int32) (p4 : Int32) (u0 : Value) (u1 : Value) (u2 : Value) (h0 : Heap) (n0 : Nat) (v : Option Value) (h : Heap) (L : List Loc) : Prop := v = none ∧ Fr n0 L ∧ Keep h0 h [a1] ∧ Exa Z h a1 "com/example/reading_buckets/readingbuckets/SeriesFieldId" ∧ Fld Z h a1 "com/example/reading_buckets/readingbuckets/SeriesFieldId" "set" "I" (.int p2) ∧ Fld Z h a1 "com/example/reading_buckets/readingbuckets/SeriesFieldId" "series" "I" (.int p3) ∧ Fld Z h a1 "com/example/reading_buckets/readingbuckets/SeriesFieldId" "field" "I" (.int p4)
set_option maxRecDepth 65536 in
set_option maxHeartbeats 40000000 in
theorem rm3 (l : Launch) (Z : State) (a0 : Array Value) (hw : ∀ d ∈ tables_1, d.before a0 Z = true) (ws : List Jvm.Cond) (a1 : Addr) (p2 : Int32) (p3 : Int32) (p4 : Int32) (u0 : Value) (u1 : Value) (u2 : Value) (h0 : Heap) (n0 : Nat) (Z0 : n0 ≤ h0.size) (F0 : Exa Z h0 a1 "com/example/reading_buckets/readingbuckets/SeriesFieldId") (F1 : Fld Z h0 a1 "com/example/reading_buckets/readingbuckets/SeriesFieldId" "set" "I" u0) (F2 : Fld Z h0 a1 "com/example/reading_buckets/readingbuckets/SeriesFieldId" "series" "I" u1) (F3 : Fld Z h0 a1 "com/example/reading_buckets/readingbuckets/SeriesFieldId" "field" "I" u2) (ge_a1 : n0 ≤ a1) :
    MetFree l (⟨"com/example/reading_buckets/readingbuckets/SeriesFieldId", "<init>", "(III)V"⟩ : MethodName) (head1 (Jvm.Cond.code (⟨"com/example/reading_buckets/readingbuckets/SeriesFieldId", "<init>", "(III)V"⟩ : MethodName) prog_35_method_1_code 4 none :: ws) ({ frames := 2, cells := 0, slots := 0, locals := 24 } : Room)) (fun a U => a = #[(.ref a1), (.int p2), (.int p3), (.int p4)] ∧ Z.Warmed39 U.vm ∧ U.heap = h0) (fun _ _ _ _ _ => True) (fun _ U o U' => ∃ v L, o = .returned v ∧ Q3 Z a1 p2 p3 p4 u0 u1 u2 h0 n0 v U'.heap L ∧ FrameEnd U o U' L ({ frames := 2, cells := 0, slots := 0, locals := 24 } : Room).cells ({ frames := 2, cells := 0, slots := 0, locals := 24 } : Room).slots) := by
  refine MetFree.of_bodySF (plainFor_of_name pn_3) hisR ?_
  intro p e s m args below meth c s₁ Bd hml0 hP hK
  obtain ⟨rfl, hZ, hh⟩ := hP
  have hx := Bd.exec
  have hby := Bd.bytes
  have hml : c.maxLocals = 4 := hml0
  have hown : s.vm.findClass "com/example/reading_buckets/readingbuckets/SeriesFieldId" = some m.cls := findClass_of_methodNamed Bd.named
  have hnm := (name_of_methodNamed Bd.named Bd.method).1
  have X0 : Stand p l e ({ frames := 2, cells := 0, slots := 0, locals := 24 } : Room) s m #[(.ref a1), (.int p2), (.int p3), (.int p4)] below meth c s₁ [] 0 0 := Stand.of_body Bd
  have e0 : s₁.heap = h0 := by rw [← hh, Bd.state]; rfl
  have N0 := Fr.nil n0
  show own_R p.tables e below (own_P s (Q3 Z a1 p2 p3 p4 u0 u1 u2 h0 n0) ({ frames := 2, cells := 0, slots := 0, locals := 24 } : Room).cells ({ frames := 2, cells := 0, slots := 0, locals := 24 } : Room).slots) (s₁.setTop (entryFrame m #[(.ref a1), (.int p2), (.int p3), (.int p4)] 4))
  refine own_f s₁ (mkF m 0 #[.val (.ref a1), .val (.int p2), .val (.int p3), .val (.int p4)] []) (fun t k => castTop (ef_3 m a1 p2 p3 p4) k) ?_
  refine own_f s₁ (mkF m 1 #[.val (.ref a1), .val (.int p2), .val (.int p3), .val (.int p4)] [(.ref a1)]) (fun t k => XS.aloadN X0.here hx rfl (hb hby d3_0) rfl rfl k) ?_
  obtain ⟨_, _, ⟨T1, Lq1, kq_1, nq_1⟩, -, X1, ⟨Lc1, hQ1, lq1, yq1, zq1⟩, st1⟩ := X0.specialBack hx (y := (⟨"java/lang/Record", "<init>", "()V"⟩ : MethodName)) rfl hown (mvT hZ (own_w hw 26 rfl)) (mvT hZ (own_w hw 7 rfl)) (mvT hZ (own_w hw 10 rfl)) (by decide) (backOf (W := 0) (rm2 l Z a0 hw [] a1 h0 n0 Z0 ) hZ (own_w hw 10 rfl) (own_w hw 9 rfl) (by decide) (by decide)) (g := (mkF m 1 #[.val (.ref a1), .val (.int p2), .val (.int p3), .val (.int p4)] [(.ref a1)])) rfl (by rw [hml]; rfl) (Steps.refl _) (a := a1) (argsL := []) (rest := []) (lenOf pd__V rfl) rfl (by show 2 * 0 + _ ≤ _; exact Nat.le_of_eq rfl) (hb hby d3_1) (fun _ _ => ⟨rfl, e0, (by decide : 0 + 0 ≤ _), (by decide : 0 + 0 ≤ _)⟩)
  dsimp only [Pt.U, Pt.locs, Pt.cells, Pt.slots] at X1 lq1 yq1 zq1 st1 hQ1
  subst lq1 yq1 zq1
  obtain ⟨h1, e1⟩ : ∃ z, T1.heap = z := ⟨_, rfl⟩
  rw [e1] at hQ1
  unfold Q2 at hQ1
  obtain ⟨rfl, Nq1, qh1⟩ := hQ1
  have N1 := Fr.app N0 Nq1
  rw [qh1] at e1
  refine own_g T1 (mkF m 4 #[.val (.ref a1), .val (.int p2), .val (.int p3), .val (.int p4)] []) st1 ?_
  refine own_f T1 (mkF m 5 #[.val (.ref a1), .val (.int p2), .val (.int p3), .val (.int p4)] [(.ref a1)]) (fun t k => XS.aloadN X1.here hx rfl (hb hby d3_4) rfl rfl k) ?_
  refine own_f T1 (mkF m 6 #[.val (.ref a1), .val (.int p2), .val (.int p3), .val (.int p4)] [(.int p2), (.ref a1)]) (fun t k => XS.iloadN X1.here hx rfl (hb hby d3_5) rfl k) ?_
  obtain ⟨T2, h2, X2, e2, W2, st2⟩ := putF X1 hx hZ hown (host := "") (Or.inl (own_w hw 27 rfl)) Via.refl e1 F1 F0 (Or.inr ⟨(own_w hw 28 rfl), rfl, hnm⟩) (own_w hw 21 rfl) (ty := .int) (by decide) rfl rfl (g := (mkF m 6 #[.val (.ref a1), .val (.int p2), .val (.int p3), .val (.int p4)] [(.int p2), (.ref a1)])) rfl rfl (hb hby d3_6)
  have N2 := Fr.snoc X2 N1 ge_a1
  have Zs2 : n0 ≤ h2.size := by rw [W2.size]; exact Z0
  have K2 : Keep h0 h2 [a1] := (Keep.refl h0 [a1]).wr W2 (Or.inl (by simp))
  have F_3 := F0.wr W2
  have F_4 := F1.same W2
  have F_5 := F2.other W2 (Or.inr (slot_ne (Or.inr (own_w hw 30 rfl)) (Or.inr (own_w hw 28 rfl)) (by decide) (t := .int) (t' := .int) (by decide) (by decide)))
  have F_6 := F3.other W2 (Or.inr (slot_ne (Or.inr (own_w hw 32 rfl)) (Or.inr (own_w hw 28 rfl)) (by decide) (t := .int) (t' := .int) (by decide) (by decide)))
  refine own_f T2 (mkF m 9 #[.val (.ref a1), .val (.int p2), .val (.int p3), .val (.int p4)] []) st2 ?_
  refine own_f T2 (mkF m 10 #[.val (.ref a1), .val (.int p2), .val (.int p3), .val (.int p4)] [(.ref a1)]) (fun t k => XS.aloadN X2.here hx rfl (hb hby d3_9) rfl rfl k) ?_
  refine own_f T2 (mkF m 11 #[.val (.ref a1), .val (.int p2), .val (.int p3), .val (.int p4)] [(.int p3), (.ref a1)]) (fun t k => XS.iloadN X2.here hx rfl (hb hby d3_10) rfl k) ?_
  obtain ⟨T7, h7, X7, e7, W7, st7⟩ := putF X2 hx hZ hown (host := "") (Or.inl (own_w hw 29 rfl)) Via.refl e2 F_5 F_3 (Or.inr ⟨(own_w hw 30 rfl), rfl, hnm⟩) (own_w hw 21 rfl) (ty := .int) (by decide) rfl rfl (g := (mkF m 11 #[.val (.ref a1), .val (.int p2), .val (.int p3), .val (.int p4)] [(.int p3), (.ref a1)])) rfl rfl (hb hby d3_11)
  have N7 := Fr.snoc X7 N2 ge_a1
  have Zs7 : n0 ≤ h7.size := by rw [W7.size]; exact Zs2
  have K7 : Keep h0 h7 [a1] := K2.wr W7 (Or.inl (by simp))
  have F_8 := F_3.wr W7
  have F_9 := F_4.other W7 (Or.inr (slot_ne (Or.inr (own_w hw 28 rfl)) (Or.inr (own_w hw 30 rfl)) (by decide) (t := .int) (t' := .int) (by decide) (by decide)))
  have F_10 := F_5.same W7
  have F_11 := F_6.other W7 (Or.inr (slot_ne (Or.inr (own_w hw 32 rfl)) (Or.inr (own_w hw 30 rfl)) (by decide) (t := .int) (t' := .int) (by decide) (by decide)))
  refine own_f T7 (mkF m 14 #[.val (.ref a1), .val (.int p2), .val (.int p3), .val (.int p4)] []) st7 ?_
  refine own_f T7 (mkF m 15 #[.val (.ref a1), .val (.int p2), .val (.int p3), .val (.int p4)] [(.ref a1)]) (fun t k => XS.aloadN X7.here hx rfl (hb hby d3_14) rfl rfl k) ?_
  refine own_f T7 (mkF m 16 #[.val (.ref a1), .val (.int p2), .val (.int p3), .val (.int p4)] [(.int p4), (.ref a1)]) (fun t k => XS.iloadN X7.here hx rfl (hb hby d3_15) rfl k) ?_
  obtain ⟨T12, h12, X12, e12, W12, st12⟩ := putF X7 hx hZ hown (host := "") (Or.inl (own_w hw 31 rfl)) Via.refl e7 F_11 F_8 (Or.inr ⟨(own_w hw 32 rfl), rfl, hnm⟩) (own_w hw 21 rfl) (ty := .int) (by decide) rfl rfl (g := (mkF m 16 #[.val (.ref a1), .val (.int p2), .val (.int p3), .val (.int p4)] [(.int p4), (.ref a1)])) rfl rfl (hb hby d3_16)
  have N12 := Fr.snoc X12 N7 ge_a1
  have Zs12 : n0 ≤ h12.size := by rw [W12.size]; exact Zs7
  have K12 : Keep h0 h12 [a1] := K7.wr W12 (Or.inl (by simp))
  have F_13 := F_8.wr W12
  have F_14 := F_9.other W12 (Or.inr (slot_ne (Or.inr (own_w hw 28 rfl)) (Or.inr (own_w hw 32 rfl)) (by decide) (t := .int) (t' := .int) (by decide) (by decide)))
  have F_15 := F_10.other W12 (Or.inr (slot_ne (Or.inr (own_w hw 30 rfl)) (Or.inr (own_w hw 32 rfl)) (by decide) (t := .int) (t' := .int) (by decide) (by decide)))
  have F_16 := F_11.same W12
  refine own_f T12 (mkF m 19 #[.val (.ref a1), .val (.int p2), .val (.int p3), .val (.int p4)] []) st12 ?_
  obtain ⟨fs, hr, hrun, hended, hW, hsame⟩ := X12.leave (v := none) (fun _ => rfl)
  refine ⟨_, _, X12.returnOut hx Bd.returns (hb hby d3_19) hr, hrun, hended, _, _, rfl, ?_, ⟨_, rfl⟩, hW, hsame.mono (by decide) (by decide)⟩
  show Q3 Z a1 p2 p3 p4 u0 u1 u2 h0 n0 _ T12.heap _
  rw [e12]
  exact ⟨rfl, N12, K12, F_13, F_14, F_15, F_16⟩
theorem d4_0 : decode prog_35_method_7_code 0 = .ok (.aload_n 0, 1) := by decide +kernel
theorem d4_1 : decode prog_35_method_7_code 1 = .ok (.getfield 13, 3) := by decide +kernel
theorem d4_4 : decode prog_35_method_7_code 4 = .ok (.ireturn, 1) := by decide +kernel
theorem pn_4 : plainName "com/example/reading_buckets/readingbuckets/SeriesFieldId" = true := by first | (simp [plainName, overriddenIn]; done) | decide +kernel
theorem ef_4 (m : MethodId) (x0 : Addr) : entryFrame m #[(.ref x0)] 1 = mkF m 0 #[.val (.ref x0)] [] := by first | (simp [entryFrame, mkF, argsToLocals, Value.category]; done) | rfl
def Q4 (Z : State) (a1 : Addr) (w1 : Int32) (h0 : Heap) (n0 : Nat) (v : Option Value) (h : Heap) (L : List Loc) : Prop := v = some (.int w1) ∧ Fr n0 L ∧ h = h0
set_option maxRecDepth 65536 in
set_option maxHeartbeats 40000000 in
theorem rm4 (l : Launch) (Z : State) (a0 : Array Value) (hw : ∀ d ∈ tables_1, d.before a0 Z = true) (ws : List Jvm.Cond) (a1 : Addr) (w1 : Int32) (h0 : Heap) (n0 : Nat) (Z0 : n0 ≤ h0.size) (F0 : Fld Z h0 a1 "com/example/reading_buckets/readingbuckets/SeriesFieldId" "series" "I" (.int w1)) :
    MetFree l (⟨"com/example/reading_buckets/readingbuckets/SeriesFieldId", "series", "()I"⟩ : MethodName) (head1 (Jvm.Cond.code (⟨"com/example/reading_buckets/readingbuckets/SeriesFieldId", "series", "()I"⟩ : MethodName) prog_35_method_7_code 1 (some .int) :: ws) ({ frames := 0, cells := 0, slots := 0, locals := 0 } : Room)) (fun a U => a = #[(.ref a1)] ∧ Z.Warmed39 U.vm ∧ U.heap = h0) (fun _ _ _ _ _ => True) (fun _ U o U' => ∃ v L, o = .returned v ∧ Q4 Z a1 w1 h0 n0 v U'.heap L ∧ FrameEnd U o U' L ({ frames := 0, cells := 0, slots := 0, locals := 0 } : Room).cells ({ frames := 0, cells := 0, slots := 0, locals := 0 } : Room).slots) := by
  refine MetFree.of_bodySF (plainFor_of_name pn_4) hisR ?_
  intro p e s m args below meth c s₁ Bd hml0 hP hK
  obtain ⟨rfl, hZ, hh⟩ := hP
  have hx := Bd.exec
  have hby := Bd.bytes
  have hml : c.maxLocals = 1 := hml0
  have hown : s.vm.findClass "com/example/reading_buckets/readingbuckets/SeriesFieldId" = some m.cls := findClass_of_methodNamed Bd.named
  have hnm := (name_of_methodNamed Bd.named Bd.method).1
  have X0 : Stand p l e ({ frames := 0, cells := 0, slots := 0, locals := 0 } : Room) s m #[(.ref a1)] below meth c s₁ [] 0 0 := Stand.of_body Bd
  have e0 : s₁.heap = h0 := by rw [← hh, Bd.state]; rfl
  have N0 := Fr.nil n0
  show own_R p.tables e below (own_P s (Q4 Z a1 w1 h0 n0) ({ frames := 0, cells := 0, slots := 0, locals := 0 } : Room).cells ({ frames := 0, cells := 0, slots := 0, locals := 0 } : Room).slots) (s₁.setTop (entryFrame m #[(.ref a1)] 1))
  refine own_f s₁ (mkF m 0 #[.val (.ref a1)] []) (fun t k => castTop (ef_4 m a1) k) ?_
  refine own_f s₁ (mkF m 1 #[.val (.ref a1)] [(.ref a1)]) (fun t k => XS.aloadN X0.here hx rfl (hb hby d4_0) rfl rfl k) ?_
  obtain ⟨T1, X1, e1, st1⟩ := getF X0 hx hZ hown (host := "") (Or.inl (own_w hw 29 rfl)) Via.refl e0 F0 (g := (mkF m 1 #[.val (.ref a1)] [(.ref a1)])) rfl rfl (hb hby d4_1)
  refine own_f T1 (mkF m 4 #[.val (.ref a1)] [(.int w1)]) st1 ?_
  obtain ⟨fs, hr, hrun, hended, hW, hsame⟩ := X1.leave (v := some (.int w1)) (fun h => by rw [Bd.returns] at h; cases h)
  refine ⟨_, _, retI X1 hx Bd.returns (hb hby d4_4) hr, hrun, hended, _, _, rfl, ?_, ⟨_, rfl⟩, hW, hsame.mono (by decide) (by decide)⟩
  show Q4 Z a1 w1 h0 n0 _ T1.heap _
  rw [e1]
  exact ⟨rfl, N0, rfl⟩
theorem d5_0 : decode prog_35_method_8_code 0 = .ok (.aload_n 0, 1) := by decide +kernel
theorem d5_1 : decode prog_35_method_8_code 1 = .ok (.getfield 16, 3) := by decide +kernel
theorem d5_4 : decode prog_35_method_8_code 4 = .ok (.ireturn, 1) := by decide +kernel
theorem pn_5 : plainName "com/example/reading_buckets/readingbuckets/SeriesFieldId" = true := by first | (simp [plainName, overriddenIn]; done) | decide +kernel
theorem ef_5 (m : MethodId) (x0 : Addr) : entryFrame m #[(.ref x0)] 1 = mkF m 0 #[.val (.ref x0)] [] := by first | (simp [entryFrame, mkF, argsToLocals, Value.category]; done) | rfl
def Q5 (Z : State) (a1 : Addr) (w1 : Int32) (h0 : Heap) (n0 : Nat) (v : Option Value) (h : Heap) (L : List Loc) : Prop := v = some (.int w1) ∧ Fr n0 L ∧ h = h0
set_option maxRecDepth 65536 in
set_option maxHeartbeats 40000000 in
theorem rm5 (l : Launch) (Z : State) (a0 : Array Value) (hw : ∀ d ∈ tables_1, d.before a0 Z = true) (ws : List Jvm.Cond) (a1 : Addr) (w1 : Int32) (h0 : Heap) (n0 : Nat) (Z0 : n0 ≤ h0.size) (F0 : Fld Z h0 a1 "com/example/reading_buckets/readingbuckets/SeriesFieldId" "field" "I" (.int w1)) :
    MetFree l (⟨"com/example/reading_buckets/readingbuckets/SeriesFieldId", "field", "()I"⟩ : MethodName) (head1 (Jvm.Cond.code (⟨"com/example/reading_buckets/readingbuckets/SeriesFieldId", "field", "()I"⟩ : MethodName) prog_35_method_8_code 1 (some .int) :: ws) ({ frames := 0, cells := 0, slots := 0, locals := 0 } : Room)) (fun a U => a = #[(.ref a1)] ∧ Z.Warmed39 U.vm ∧ U.heap = h0) (fun _ _ _ _ _ => True) (fun _ U o U' => ∃ v L, o = .returned v ∧ Q5 Z a1 w1 h0 n0 v U'.heap L ∧ FrameEnd U o U' L ({ frames := 0, cells := 0, slots := 0, locals := 0 } : Room).cells ({ frames := 0, cells := 0, slots := 0, locals := 0 } : Room).slots) := by
  refine MetFree.of_bodySF (plainFor_of_name pn_5) hisR ?_
  intro p e s m args below meth c s₁ Bd hml0 hP hK
  obtain ⟨rfl, hZ, hh⟩ := hP
  have hx := Bd.exec
  have hby := Bd.bytes
  have hml : c.maxLocals = 1 := hml0
  have hown : s.vm.findClass "com/example/reading_buckets/readingbuckets/SeriesFieldId" = some m.cls := findClass_of_methodNamed Bd.named
  have hnm := (name_of_methodNamed Bd.named Bd.method).1
  have X0 : Stand p l e ({ frames := 0, cells := 0, slots := 0, locals := 0 } : Room) s m #[(.ref a1)] below meth c s₁ [] 0 0 := Stand.of_body Bd
  have e0 : s₁.heap = h0 := by rw [← hh, Bd.state]; rfl
  have N0 := Fr.nil n0
  show own_R p.tables e below (own_P s (Q5 Z a1 w1 h0 n0) ({ frames := 0, cells := 0, slots := 0, locals := 0 } : Room).cells ({ frames := 0, cells := 0, slots := 0, locals := 0 } : Room).slots) (s₁.setTop (entryFrame m #[(.ref a1)] 1))
  refine own_f s₁ (mkF m 0 #[.val (.ref a1)] []) (fun t k => castTop (ef_5 m a1) k) ?_
  refine own_f s₁ (mkF m 1 #[.val (.ref a1)] [(.ref a1)]) (fun t k => XS.aloadN X0.here hx rfl (hb hby d5_0) rfl rfl k) ?_
  obtain ⟨T1, X1, e1, st1⟩ := getF X0 hx hZ hown (host := "") (Or.inl (own_w hw 31 rfl)) Via.refl e0 F0 (g := (mkF m 1 #[.val (.ref a1)] [(.ref a1)])) rfl rfl (hb hby d5_1)
  refine own_f T1 (mkF m 4 #[.val (.ref a1)] [(.int w1)]) st1 ?_
  obtain ⟨fs, hr, hrun, hended, hW, hsame⟩ := X1.leave (v := some (.int w1)) (fun h => by rw [Bd.returns] at h; cases h)
  refine ⟨_, _, retI X1 hx Bd.returns (hb hby d5_4) hr, hrun, hended, _, _, rfl, ?_, ⟨_, rfl⟩, hW, hsame.mono (by decide) (by decide)⟩
  show Q5 Z a1 w1 h0 n0 _ T1.heap _
  rw [e1]
  exact ⟨rfl, N0, rfl⟩
theorem d6_0 : decode prog_3_method_3_code 0 = .ok (.aload_n 0, 1) := by decide +kernel
theorem d6_1 : decode prog_3_method_3_code 1 = .ok (.getfield 7, 3) := by decide +kernel
theorem d6_4 : decode prog_3_method_3_code 4 = .ok (.aload_n 1, 1) := by decide +kernel
theorem d6_5 : decode prog_3_method_3_code 5 = .ok (.invokevirtual 20, 3) := by decide +kernel
theorem d6_8 : decode prog_3_method_3_code 8 = .ok (.if_icmp .ne 18, 3) := by decide +kernel
theorem d6_11 : decode prog_3_method_3_code 11 = .ok (.aload_n 0, 1) := by decide +kernel
theorem d6_12 : decode prog_3_method_3_code 12 = .ok (.getfield 13, 3) := by decide +kernel
theorem d6_15 : decode prog_3_method_3_code 15 = .ok (.aload_n 1, 1) := by decide +kernel
theorem d6_16 : decode prog_3_method_3_code 16 = .ok (.invokevirtual 25, 3) := by decide +kernel
theorem d6_19 : decode prog_3_method_3_code 19 = .ok (.if_icmp .ne 7, 3) := by decide +kernel
theorem d6_22 : decode prog_3_method_3_code 22 = .ok (.iconst 1, 1) := by decide +kernel
theorem d6_23 : decode prog_3_method_3_code 23 = .ok (.goto 4, 3) := by decide +kernel
theorem d6_26 : decode prog_3_method_3_code 26 = .ok (.iconst 0, 1) := by decide +kernel
theorem d6_27 : decode prog_3_method_3_code 27 = .ok (.ireturn, 1) := by decide +kernel
theorem pn_6 : plainName "com/example/reading_buckets/readingbuckets/BucketKey" = true := by first | (simp [plainName, overriddenIn]; done) | decide +kernel
theorem ef_6 (m : MethodId) (x0 : Addr) (x1 : Addr) : entryFrame m #[(.ref x0), (.ref x1)] 2 = mkF m 0 #[.val (.ref x0), .val (.ref x1)] [] := by first | (simp [entryFrame, mkF, argsToLocals, Value.category]; done) | rfl
def Q6 (Z : State) (a1 : Addr) (a2 : Addr) (w1 : Int32) (w2 : Int32) (u1 : Int32) (u2 : Int32) (h0 : Heap) (n0 : Nat) (v : Option Value) (h : Heap) (L : List Loc) : Prop := v = some (.int (own_io w1 w2 u1 u2)) ∧ Fr n0 L ∧ h = h0
set_option maxRecDepth 65536 in
set_option maxHeartbeats 40000000 in
theorem rm6 (l : Launch) (Z : State) (a0 : Array Value) (hw : ∀ d ∈ tables_1, d.before a0 Z = true) (ws : List Jvm.Cond) (a1 : Addr) (a2 : Addr) (w1 : Int32) (w2 : Int32) (u1 : Int32) (u2 : Int32) (h0 : Heap) (n0 : Nat) (Z0 : n0 ≤ h0.size) (F0 : Fld Z h0 a1 "com/example/reading_buckets/readingbuckets/BucketKey" "series" "I" (.int w1)) (F1 : Fld Z h0 a1 "com/example/reading_buckets/readingbuckets/BucketKey" "field" "I" (.int w2)) (F2 : Exa Z h0 a2 "com/example/reading_buckets/readingbuckets/SeriesFieldId") (F3 : Fld Z h0 a2 "com/example/reading_buckets/readingbuckets/SeriesFieldId" "series" "I" (.int u1)) (F4 : Fld Z h0 a2 "com/example/reading_buckets/readingbuckets/SeriesFieldId" "field" "I" (.int u2)) :
    MetFree l (⟨"com/example/reading_buckets/readingbuckets/BucketKey", "isOf", "(Lcom/example/reading_buckets/readingbuckets/SeriesFieldId;)Z"⟩ : MethodName) (head1 (Jvm.Cond.code (⟨"com/example/reading_buckets/readingbuckets/BucketKey", "isOf", "(Lcom/example/reading_buckets/readingbuckets/SeriesFieldId;)Z"⟩ : MethodName) prog_3_method_3_code 2 (some .boolean) :: ws) ({ frames := 1, cells := 0, slots := 0, locals := 14 } : Room)) (fun a U => a = #[(.ref a1), (.ref a2)] ∧ Z.Warmed39 U.vm ∧ U.heap = h0) (fun _ _ _ _ _ => True) (fun _ U o U' => ∃ v L, o = .returned v ∧ Q6 Z a1 a2 w1 w2 u1 u2 h0 n0 v U'.heap L ∧ FrameEnd U o U' L ({ frames := 1, cells := 0, slots := 0, locals := 14 } : Room).cells ({ frames := 1, cells := 0, slots := 0, locals := 14 } : Room).slots) := by
  refine MetFree.of_bodySF (plainFor_of_name pn_6) hisR ?_
  intro p e s m args below meth c s₁ Bd hml0 hP hK
  obtain ⟨rfl, hZ, hh⟩ := hP
  have hx := Bd.exec
  have hby := Bd.bytes
  have hml : c.maxLocals = 2 := hml0
  have hown : s.vm.findClass "com/example/reading_buckets/readingbuckets/BucketKey" = some m.cls := findClass_of_methodNamed Bd.named
  have hnm := (name_of_methodNamed Bd.named Bd.method).1
  have X0 : Stand p l e ({ frames := 1, cells := 0, slots := 0, locals := 14 } : Room) s m #[(.ref a1), (.ref a2)] below meth c s₁ [] 0 0 := Stand.of_body Bd
  have e0 : s₁.heap = h0 := by rw [← hh, Bd.state]; rfl
  have N0 := Fr.nil n0
  show own_R p.tables e below (own_P s (Q6 Z a1 a2 w1 w2 u1 u2 h0 n0) ({ frames := 1, cells := 0, slots := 0, locals := 14 } : Room).cells ({ frames := 1, cells := 0, slots := 0, locals := 14 } : Room).slots) (s₁.setTop (entryFrame m #[(.ref a1), (.ref a2)] 2))
  refine own_f s₁ (mkF m 0 #[.val (.ref a1), .val (.ref a2)] []) (fun t k => castTop (ef_6 m a1 a2) k) ?_
  refine own_f s₁ (mkF m 1 #[.val (.ref a1), .val (.ref a2)] [(.ref a1)]) (fun t k => XS.aloadN X0.here hx rfl (hb hby d6_0) rfl rfl k) ?_
  obtain ⟨T1, X1, e1, st1⟩ := getF X0 hx hZ hown (host := "") (Or.inl (own_w hw 14 rfl)) Via.refl e0 F0 (g := (mkF m 1 #[.val (.ref a1), .val (.ref a2)] [(.ref a1)])) rfl rfl (hb hby d6_1)
  refine own_f T1 (mkF m 4 #[.val (.ref a1), .val (.ref a2)] [(.int w1)]) st1 ?_
  refine own_f T1 (mkF m 5 #[.val (.ref a1), .val (.ref a2)] [(.ref a2), (.int w1)]) (fun t k => XS.aloadN X1.here hx rfl (hb hby d6_4) rfl rfl k) ?_
  obtain ⟨cq2, kq2, qa2, qb2, qc2⟩ := isOf hZ e1 F2
  obtain ⟨_, _, ⟨T2, Lq2, kq_2, nq_2⟩, -, X2, ⟨Lc2, hQ2, lq2, yq2, zq2⟩, st2⟩ := X1.virtualBack hx (y := (⟨"com/example/reading_buckets/readingbuckets/SeriesFieldId", "series", "()I"⟩ : MethodName)) (z := (⟨"com/example/reading_buckets/readingbuckets/SeriesFieldId", "series", "()I"⟩ : MethodName)) hown (mvT hZ (own_w hw 38 rfl)) (mvT hZ (own_w hw 39 rfl)) (notFace_of_selects (args := #[]) (mvT hZ (own_w hw 41 rfl))) (mvT hZ (own_w hw 41 rfl)) (mvT hZ (own_w hw 40 rfl)) (by decide) (backOf (W := 1) (rm4 l Z a0 hw [] a2 _ h0 n0 Z0 F3) hZ (own_w hw 42 rfl) (own_w hw 22 rfl) (by decide) (by decide)) qa2 qc2 (g := (mkF m 5 #[.val (.ref a1), .val (.ref a2)] [(.ref a2), (.int w1)])) rfl (by rw [hml]; rfl) (Steps.refl _) (argsL := []) (rest := [(.int w1)]) (lenOf pd__I rfl) rfl (by show 2 * 0 + _ ≤ _; exact Nat.le_of_eq rfl) (hb hby d6_5) (fun _ _ => ⟨rfl, e1, (by decide : 0 + 0 ≤ _), (by decide : 0 + 0 ≤ _)⟩)
  dsimp only [Pt.U, Pt.locs, Pt.cells, Pt.slots] at X2 lq2 yq2 zq2 st2 hQ2
  subst lq2 yq2 zq2
  obtain ⟨h2, e2⟩ : ∃ z, T2.heap = z := ⟨_, rfl⟩
  rw [e2] at hQ2
  unfold Q4 at hQ2
  obtain ⟨rfl, Nq2, qh2⟩ := hQ2
  have N2 := Fr.app N0 Nq2
  rw [qh2] at e2
  refine own_g T2 (mkF m 8 #[.val (.ref a1), .val (.ref a2)] [(.int u1), (.int w1)]) st2 ?_
  by_cases hc3 : w1 = u1
  · skip
    refine own_f T2 (mkF m 11 #[.val (.ref a1), .val (.ref a2)] []) (fun t k => XS.icmpNo X2.here hx rfl (hb hby d6_8) rfl (XT.ii_ne_f hc3) k) ?_
    refine own_f T2 (mkF m 12 #[.val (.ref a1), .val (.ref a2)] [(.ref a1)]) (fun t k => XS.aloadN X2.here hx rfl (hb hby d6_11) rfl rfl k) ?_
    obtain ⟨T4, X4, e4, st4⟩ := getF X2 hx hZ hown (host := "") (Or.inl (own_w hw 16 rfl)) Via.refl e2 F1 (g := (mkF m 12 #[.val (.ref a1), .val (.ref a2)] [(.ref a1)])) rfl rfl (hb hby d6_12)
    refine own_f T4 (mkF m 15 #[.val (.ref a1), .val (.ref a2)] [(.int w2)]) st4 ?_
    refine own_f T4 (mkF m 16 #[.val (.ref a1), .val (.ref a2)] [(.ref a2), (.int w2)]) (fun t k => XS.aloadN X4.here hx rfl (hb hby d6_15) rfl rfl k) ?_
    obtain ⟨cq5, kq5, qa5, qb5, qc5⟩ := isOf hZ e4 F2
    obtain ⟨_, _, ⟨T5, Lq5, kq_5, nq_5⟩, -, X5, ⟨Lc5, hQ5, lq5, yq5, zq5⟩, st5⟩ := X4.virtualBack hx (y := (⟨"com/example/reading_buckets/readingbuckets/SeriesFieldId", "field", "()I"⟩ : MethodName)) (z := (⟨"com/example/reading_buckets/readingbuckets/SeriesFieldId", "field", "()I"⟩ : MethodName)) hown (mvT hZ (own_w hw 43 rfl)) (mvT hZ (own_w hw 44 rfl)) (notFace_of_selects (args := #[]) (mvT hZ (own_w hw 46 rfl))) (mvT hZ (own_w hw 46 rfl)) (mvT hZ (own_w hw 45 rfl)) (by decide) (backOf (W := 1) (rm5 l Z a0 hw [] a2 _ h0 n0 Z0 F4) hZ (own_w hw 47 rfl) (own_w hw 22 rfl) (by decide) (by decide)) qa5 qc5 (g := (mkF m 16 #[.val (.ref a1), .val (.ref a2)] [(.ref a2), (.int w2)])) rfl (by rw [hml]; rfl) (Steps.refl _) (argsL := []) (rest := [(.int w2)]) (lenOf pd__I rfl) rfl (by show 2 * 0 + _ ≤ _; exact Nat.le_of_eq rfl) (hb hby d6_16) (fun _ _ => ⟨rfl, e4, (by decide : 0 + 0 + 0 ≤ _), (by decide : 0 + 0 + 0 ≤ _)⟩)
    dsimp only [Pt.U, Pt.locs, Pt.cells, Pt.slots] at X5 lq5 yq5 zq5 st5 hQ5
    subst lq5 yq5 zq5
    obtain ⟨h5, e5⟩ : ∃ z, T5.heap = z := ⟨_, rfl⟩
    rw [e5] at hQ5
    unfold Q5 at hQ5
    obtain ⟨rfl, Nq5, qh5⟩ := hQ5
    have N5 := Fr.app N2 Nq5
    rw [qh5] at e5
    refine own_g T5 (mkF m 19 #[.val (.ref a1), .val (.ref a2)] [(.int u2), (.int w2)]) st5 ?_
    by_cases hc6 : w2 = u2
    · skip
      refine own_f T5 (mkF m 22 #[.val (.ref a1), .val (.ref a2)] []) (fun t k => XS.icmpNo X5.here hx rfl (hb hby d6_19) rfl (XT.ii_ne_f hc6) k) ?_
      refine own_f T5 (mkF m 23 #[.val (.ref a1), .val (.ref a2)] [(.int (1 : Int32))]) (fun t k => XT.iconstV X5.here hx rfl (1 : Int32) (hb hby d6_22) (by decide) k) ?_
      refine own_f T5 (mkF m 27 #[.val (.ref a1), .val (.ref a2)] [(.int (1 : Int32))]) (fun t k => XS.goto X5.here hx rfl (pc0 := 23) (pc' := 27) rfl (hb hby d6_23) (by decide) (by decide) k) ?_
      obtain ⟨fs, hr, hrun, hended, hW, hsame⟩ := X5.leave (v := some (.int (1 : Int32))) (fun h => by rw [Bd.returns] at h; cases h)
      refine ⟨_, _, retN X5 hx (t := .boolean) Bd.returns (by simp) (hb hby d6_27) hr, hrun, hended, _, _, rfl, ?_, ⟨_, rfl⟩, hW, hsame.mono (by decide) (by decide)⟩
      show Q6 Z a1 a2 w1 w2 u1 u2 h0 n0 _ T5.heap _
      rw [e5]
      exact ⟨by rw [own_io, if_pos ⟨hc3, hc6⟩] <;> rfl, N5, rfl⟩
    · skip
      refine own_f T5 (mkF m 26 #[.val (.ref a1), .val (.ref a2)] []) (fun t k => XS.icmpYes X5.here hx rfl (pc0 := 19) (pc' := 26) rfl (hb hby d6_19) rfl (XT.ii_ne_t hc6) (by decide) (by decide) k) ?_
      refine own_f T5 (mkF m 27 #[.val (.ref a1), .val (.ref a2)] [(.int (0 : Int32))]) (fun t k => XT.iconstV X5.here hx rfl (0 : Int32) (hb hby d6_26) (by decide) k) ?_
      obtain ⟨fs, hr, hrun, hended, hW, hsame⟩ := X5.leave (v := some (.int (0 : Int32))) (fun h => by rw [Bd.returns] at h; cases h)
      refine ⟨_, _, retN X5 hx (t := .boolean) Bd.returns (by simp) (hb hby d6_27) hr, hrun, hended, _, _, rfl, ?_, ⟨_, rfl⟩, hW, hsame.mono (by decide) (by decide)⟩
      show Q6 Z a1 a2 w1 w2 u1 u2 h0 n0 _ T5.heap _
      rw [e5]
      exact ⟨by rw [own_io, if_neg (fun z => hc6 z.2)] <;> rfl, N5, rfl⟩
  · skip
    refine own_f T2 (mkF m 26 #[.val (.ref a1), .val (.ref a2)] []) (fun t k => XS.icmpYes X2.here hx rfl (pc0 := 8) (pc' := 26) rfl (hb hby d6_8) rfl (XT.ii_ne_t hc3) (by decide) (by decide) k) ?_
    refine own_f T2 (mkF m 27 #[.val (.ref a1), .val (.ref a2)] [(.int (0 : Int32))]) (fun t k => XT.iconstV X2.here hx rfl (0 : Int32) (hb hby d6_26) (by decide) k) ?_
    obtain ⟨fs, hr, hrun, hended, hW, hsame⟩ := X2.leave (v := some (.int (0 : Int32))) (fun h => by rw [Bd.returns] at h; cases h)
    refine ⟨_, _, retN X2 hx (t := .boolean) Bd.returns (by simp) (hb hby d6_27) hr, hrun, hended, _, _, rfl, ?_, ⟨_, rfl⟩, hW, hsame.mono (by decide) (by decide)⟩
    show Q6 Z a1 a2 w1 w2 u1 u2 h0 n0 _ T2.heap _
    rw [e2]
    exact ⟨by rw [own_io, if_neg (fun z => hc3 z.1)] <;> rfl, N2, rfl⟩
theorem pn_0 : plainName "com/example/reading_buckets/readingbuckets/BucketKeyIsOfPinLaw" = true := by first | (simp [plainName, overriddenIn]; done) | decide +kernel
theorem ef_0 (m : MethodId) (x0 : Int32) (x1 : Int32) (x2 : Int64) (x3 : Int32) (x4 : Int32) (x5 : Int32) : entryFrame m #[(.int x0), (.int x1), (.long x2), (.int x3), (.int x4), (.int x5)] maxLocals = mkF m 0 #[.val (.int x0), .val (.int x1), .val (.long x2), .second, .val (.int x3), .val (.int x4), .val (.int x5), .unset, .unset, .unset, .unset, .unset, .unset, .unset] [] := by first | (simp [entryFrame, mkF, argsToLocals, Value.category, maxLocals]; done) | rfl
def Q0 (Z : State) (p1 : Int32) (p2 : Int32) (q3 : Int64) (p4 : Int32) (p5 : Int32) (p6 : Int32) (h0 : Heap) (n0 : Nat) (v : Option Value) (h : Heap) (L : List Loc) : Prop := v = some (.int 1) ∧ Fr n0 L
set_option maxRecDepth 65536 in
set_option maxHeartbeats 40000000 in
theorem rm0 (l : Launch) (Z : State) (a0 : Array Value) (hw : ∀ d ∈ tables_1, d.before a0 Z = true) (ws : List Jvm.Cond) (p1 : Int32) (p2 : Int32) (q3 : Int64) (p4 : Int32) (p5 : Int32) (p6 : Int32) (h0 : Heap) (n0 : Nat) (Z0 : n0 ≤ h0.size) :
    MetFree l x (head1 (Jvm.Cond.code x code maxLocals ret :: ws) room_1) (fun a U => a = #[(.int p1), (.int p2), (.long q3), (.int p4), (.int p5), (.int p6)] ∧ Z.Warmed39 U.vm ∧ U.heap = h0) (fun _ _ _ _ _ => True) (fun _ U o U' => ∃ v L, o = .returned v ∧ Q0 Z p1 p2 q3 p4 p5 p6 h0 n0 v U'.heap L ∧ FrameEnd U o U' L room_1.cells room_1.slots) := by
  refine MetFree.of_bodySF (plainFor_of_name pn_0) hisR ?_
  intro p e s m args below meth c s₁ Bd hml0 hP hK
  obtain ⟨rfl, hZ, hh⟩ := hP
  have hx := Bd.exec
  have hby := Bd.bytes
  have hml : c.maxLocals = 14 := hml0
  have hown : s.vm.findClass "com/example/reading_buckets/readingbuckets/BucketKeyIsOfPinLaw" = some m.cls := findClass_of_methodNamed Bd.named
  have hnm := (name_of_methodNamed Bd.named Bd.method).1
  have X0 : Stand p l e room_1 s m #[(.int p1), (.int p2), (.long q3), (.int p4), (.int p5), (.int p6)] below meth c s₁ [] 0 0 := Stand.of_body Bd
  have e0 : s₁.heap = h0 := by rw [← hh, Bd.state]; rfl
  have N0 := Fr.nil n0
  show own_R p.tables e below (own_P s (Q0 Z p1 p2 q3 p4 p5 p6 h0 n0) room_1.cells room_1.slots) (s₁.setTop (entryFrame m #[(.int p1), (.int p2), (.long q3), (.int p4), (.int p5), (.int p6)] maxLocals))
  refine own_f s₁ (mkF m 0 #[.val (.int p1), .val (.int p2), .val (.long q3), .second, .val (.int p4), .val (.int p5), .val (.int p6), .unset, .unset, .unset, .unset, .unset, .unset, .unset] []) (fun t k => castTop (ef_0 m p1 p2 q3 p4 p5 p6) k) ?_
  refine own_f s₁ (mkF m 2 #[.val (.int p1), .val (.int p2), .val (.long q3), .second, .val (.int p4), .val (.int p5), .val (.int p6), .unset, .unset, .unset, .unset, .unset, .unset, .unset] [(.int p6)]) (fun t k => XS.iload X0.here hx rfl (hb hby at_0) rfl k) ?_
  refine own_f s₁ (mkF m 3 #[.val (.int p1), .val (.int p2), .val (.long q3), .second, .val (.int p4), .val (.int p5), .val (.int p6), .unset, .unset, .unset, .unset, .unset, .unset, .unset] [(.int (1 : Int32)), (.int p6)]) (fun t k => XT.iconstV X0.here hx rfl (1 : Int32) (hb hby at_2) (by decide) k) ?_
  refine own_f s₁ (mkF m 4 #[.val (.int p1), .val (.int p2), .val (.long q3), .second, .val (.int p4), .val (.int p5), .val (.int p6), .unset, .unset, .unset, .unset, .unset, .unset, .unset] [(.int (p6 &&& (1 : Int32)))]) (fun t k => XS.iand X0.here hx rfl (hb hby at_3) rfl k) ?_
  have jn1 : ∀ (z1 : Int32), own_R p.tables e below (own_P s (Q0 Z p1 p2 q3 p4 p5 p6 h0 n0) room_1.cells room_1.slots) (s₁.setTop (mkF m 12 #[.val (.int p1), .val (.int p2), .val (.long q3), .second, .val (.int p4), .val (.int p5), .val (.int p6), .unset, .unset, .unset, .unset, .unset, .unset, .unset] [(.int z1)])) := by
    intro z1
    refine own_f s₁ (mkF m 14 #[.val (.int p1), .val (.int p2), .val (.long q3), .second, .val (.int p4), .val (.int p5), .val (.int p6), .val (.int z1), .unset, .unset, .unset, .unset, .unset, .unset] []) (fun t k => XS.istore X0.here hx rfl (hb hby at_12) rfl (l' := #[.val (.int p1), .val (.int p2), .val (.long q3), .second, .val (.int p4), .val (.int p5), .val (.int p6), .val (.int z1), .unset, .unset, .unset, .unset, .unset, .unset]) rfl k) ?_
    refine own_f s₁ (mkF m 16 #[.val (.int p1), .val (.int p2), .val (.long q3), .second, .val (.int p4), .val (.int p5), .val (.int p6), .val (.int z1), .unset, .unset, .unset, .unset, .unset, .unset] [(.int p6)]) (fun t k => XS.iload X0.here hx rfl (hb hby at_14) rfl k) ?_
    refine own_f s₁ (mkF m 17 #[.val (.int p1), .val (.int p2), .val (.long q3), .second, .val (.int p4), .val (.int p5), .val (.int p6), .val (.int z1), .unset, .unset, .unset, .unset, .unset, .unset] [(.int (2 : Int32)), (.int p6)]) (fun t k => XT.iconstV X0.here hx rfl (2 : Int32) (hb hby at_16) (by decide) k) ?_
    refine own_f s₁ (mkF m 18 #[.val (.int p1), .val (.int p2), .val (.long q3), .second, .val (.int p4), .val (.int p5), .val (.int p6), .val (.int z1), .unset, .unset, .unset, .unset, .unset, .unset] [(.int (p6 &&& (2 : Int32)))]) (fun t k => XS.iand X0.here hx rfl (hb hby at_17) rfl k) ?_
    have jn2 : ∀ (z2 : Int32), own_R p.tables e below (own_P s (Q0 Z p1 p2 q3 p4 p5 p6 h0 n0) room_1.cells room_1.slots) (s₁.setTop (mkF m 26 #[.val (.int p1), .val (.int p2), .val (.long q3), .second, .val (.int p4), .val (.int p5), .val (.int p6), .val (.int z1), .unset, .unset, .unset, .unset, .unset, .unset] [(.int z2)])) := by
      intro z2
      refine own_f s₁ (mkF m 28 #[.val (.int p1), .val (.int p2), .val (.long q3), .second, .val (.int p4), .val (.int p5), .val (.int p6), .val (.int z1), .val (.int z2), .unset, .unset, .unset, .unset, .unset] []) (fun t k => XS.istore X0.here hx rfl (hb hby at_26) rfl (l' := #[.val (.int p1), .val (.int p2), .val (.long q3), .second, .val (.int p4), .val (.int p5), .val (.int p6), .val (.int z1), .val (.int z2), .unset, .unset, .unset, .unset, .unset]) rfl k) ?_
      refine own_f s₁ (mkF m 30 #[.val (.int p1), .val (.int p2), .val (.long q3), .second, .val (.int p4), .val (.int p5), .val (.int p6), .val (.int z1), .val (.int z2), .unset, .unset, .unset, .unset, .unset] [(.int z1)]) (fun t k => XS.iload X0.here hx rfl (hb hby at_28) rfl k) ?_
      have jn3 : ∀ (x1 : Int32) (jx0 : z1 = 0 → x1 = (p1 ^^^ (p5 ||| (1 : Int32)))) (jx1 : ¬ z1 = 0 → x1 = p1), own_R p.tables e below (own_P s (Q0 Z p1 p2 q3 p4 p5 p6 h0 n0) room_1.cells room_1.slots) (s₁.setTop (mkF m 43 #[.val (.int p1), .val (.int p2), .val (.long q3), .second, .val (.int p4), .val (.int p5), .val (.int p6), .val (.int z1), .val (.int z2), .unset, .unset, .unset, .unset, .unset] [(.int x1)])) := by
        intro x1 jx0 jx1
        refine own_f s₁ (mkF m 45 #[.val (.int p1), .val (.int p2), .val (.long q3), .second, .val (.int p4), .val (.int p5), .val (.int p6), .val (.int z1), .val (.int z2), .val (.int x1), .unset, .unset, .unset, .unset] []) (fun t k => XS.istore X0.here hx rfl (hb hby at_43) rfl (l' := #[.val (.int p1), .val (.int p2), .val (.long q3), .second, .val (.int p4), .val (.int p5), .val (.int p6), .val (.int z1), .val (.int z2), .val (.int x1), .unset, .unset, .unset, .unset]) rfl k) ?_
        refine own_f s₁ (mkF m 47 #[.val (.int p1), .val (.int p2), .val (.long q3), .second, .val (.int p4), .val (.int p5), .val (.int p6), .val (.int z1), .val (.int z2), .val (.int x1), .unset, .unset, .unset, .unset] [(.int z2)]) (fun t k => XS.iload X0.here hx rfl (hb hby at_45) rfl k) ?_
        have jn4 : ∀ (y1 : Int32) (jy0 : z2 = 0 → y1 = (p2 ^^^ (((p5.toUInt32 >>> ((16 : Int32) &&& 31).toUInt32).toInt32) ||| (1 : Int32)))) (jy1 : ¬ z2 = 0 → y1 = p2), own_R p.tables e below (own_P s (Q0 Z p1 p2 q3 p4 p5 p6 h0 n0) room_1.cells room_1.slots) (s₁.setTop (mkF m 63 #[.val (.int p1), .val (.int p2), .val (.long q3), .second, .val (.int p4), .val (.int p5), .val (.int p6), .val (.int z1), .val (.int z2), .val (.int x1), .unset, .unset, .unset, .unset] [(.int y1)])) := by
          intro y1 jy0 jy1
          refine own_f s₁ (mkF m 65 #[.val (.int p1), .val (.int p2), .val (.long q3), .second, .val (.int p4), .val (.int p5), .val (.int p6), .val (.int z1), .val (.int z2), .val (.int x1), .val (.int y1), .unset, .unset, .unset] []) (fun t k => XS.istore X0.here hx rfl (hb hby at_63) rfl (l' := #[.val (.int p1), .val (.int p2), .val (.long q3), .second, .val (.int p4), .val (.int p5), .val (.int p6), .val (.int z1), .val (.int z2), .val (.int x1), .val (.int y1), .unset, .unset, .unset]) rfl k) ?_
          obtain ⟨T5, h5, X5, e5, E5, A5, D5, U5, st5⟩ := newO X0 hx hZ hown (own_w hw 0 rfl) (own_w hw 1 rfl) (own_w hw 2 rfl) e0 (g := (mkF m 65 #[.val (.int p1), .val (.int p2), .val (.long q3), .second, .val (.int p4), .val (.int p5), .val (.int p6), .val (.int z1), .val (.int z2), .val (.int x1), .val (.int y1), .unset, .unset, .unset] [])) rfl (hb hby at_65) (by decide) (by decide)
          obtain ⟨b5, g5⟩ : ∃ z, z = h0.size := ⟨_, rfl⟩
          rw [← g5] at A5 D5 st5
          have ge5 : n0 ≤ b5 := by rw [g5]; exact Z0
          have Zs5 : n0 ≤ h5.size := Nat.le_trans Z0 E5.1
          have F_6 : Fld Z h5 b5 "com/example/reading_buckets/readingbuckets/BucketKey" "series" "I" (.int 0) := D5 (Or.inr (own_w hw 15 rfl)) (ty := .int) (by decide)
          have F_7 : Fld Z h5 b5 "com/example/reading_buckets/readingbuckets/BucketKey" "field" "I" (.int 0) := D5 (Or.inr (own_w hw 17 rfl)) (ty := .int) (by decide)
          have F_8 : Fld Z h5 b5 "com/example/reading_buckets/readingbuckets/BucketKey" "time" "J" (.long 0) := D5 (Or.inr (own_w hw 19 rfl)) (ty := .long) (by decide)
          refine own_f T5 (mkF m 68 #[.val (.int p1), .val (.int p2), .val (.long q3), .second, .val (.int p4), .val (.int p5), .val (.int p6), .val (.int z1), .val (.int z2), .val (.int x1), .val (.int y1), .unset, .unset, .unset] [(.ref b5)]) st5 ?_
          refine own_f T5 (mkF m 69 #[.val (.int p1), .val (.int p2), .val (.long q3), .second, .val (.int p4), .val (.int p5), .val (.int p6), .val (.int z1), .val (.int z2), .val (.int x1), .val (.int y1), .unset, .unset, .unset] [(.ref b5), (.ref b5)]) (fun t k => XS.dup X5.here hx rfl (hb hby at_68) rfl rfl k) ?_
          refine own_f T5 (mkF m 70 #[.val (.int p1), .val (.int p2), .val (.long q3), .second, .val (.int p4), .val (.int p5), .val (.int p6), .val (.int z1), .val (.int z2), .val (.int x1), .val (.int y1), .unset, .unset, .unset] [(.int p1), (.ref b5), (.ref b5)]) (fun t k => XS.iloadN X5.here hx rfl (hb hby at_69) rfl k) ?_
          refine own_f T5 (mkF m 71 #[.val (.int p1), .val (.int p2), .val (.long q3), .second, .val (.int p4), .val (.int p5), .val (.int p6), .val (.int z1), .val (.int z2), .val (.int x1), .val (.int y1), .unset, .unset, .unset] [(.int p2), (.int p1), (.ref b5), (.ref b5)]) (fun t k => XS.iloadN X5.here hx rfl (hb hby at_70) rfl k) ?_
          refine own_f T5 (mkF m 72 #[.val (.int p1), .val (.int p2), .val (.long q3), .second, .val (.int p4), .val (.int p5), .val (.int p6), .val (.int z1), .val (.int z2), .val (.int x1), .val (.int y1), .unset, .unset, .unset] [(.long q3), (.int p2), (.int p1), (.ref b5), (.ref b5)]) (fun t k => XS.lloadN X5.here hx rfl (hb hby at_71) rfl k) ?_
          obtain ⟨_, _, ⟨T9, Lq9, kq_9, nq_9⟩, -, X9, ⟨Lc9, hQ9, lq9, yq9, zq9⟩, st9⟩ := X5.specialBack hx (y := (⟨"com/example/reading_buckets/readingbuckets/BucketKey", "<init>", "(IIJ)V"⟩ : MethodName)) rfl hown (mvT hZ (own_w hw 3 rfl)) (mvT hZ (own_w hw 4 rfl)) (mvT hZ (own_w hw 5 rfl)) (by decide) (backOf (W := 1) (rm1 l Z a0 hw [] b5 p1 p2 q3 _ _ _ h5 n0 Zs5 A5 F_6 F_7 F_8 ge5) hZ (own_w hw 5 rfl) (own_w hw 2 rfl) (by decide) (by decide)) (g := (mkF m 72 #[.val (.int p1), .val (.int p2), .val (.long q3), .second, .val (.int p4), .val (.int p5), .val (.int p6), .val (.int z1), .val (.int z2), .val (.int x1), .val (.int y1), .unset, .unset, .unset] [(.long q3), (.int p2), (.int p1), (.ref b5), (.ref b5)])) rfl (by rw [hml]; rfl) (Steps.refl _) (a := b5) (argsL := [(.int p1), (.int p2), (.long q3)]) (rest := [(.ref b5)]) (lenOf pd__IIJ_V rfl) rfl (by show 2 * 0 + _ ≤ _; exact Nat.le_of_eq rfl) (hb hby at_72) (fun _ _ => ⟨rfl, e5, (by decide : 0 + 1 + 0 ≤ _), (by decide : 0 + 3 + 0 ≤ _)⟩)
          dsimp only [Pt.U, Pt.locs, Pt.cells, Pt.slots] at X9 lq9 yq9 zq9 st9 hQ9
          subst lq9 yq9 zq9
          obtain ⟨h9, e9⟩ : ∃ z, T9.heap = z := ⟨_, rfl⟩
          rw [e9] at hQ9
          unfold Q1 at hQ9
          obtain ⟨rfl, Nq9, qh9, G9_0, G9_1, G9_2, G9_3⟩ := hQ9
          have N9 := Fr.app N0 Nq9
          have Zs9 : n0 ≤ h9.size := Nat.le_trans Zs5 qh9.1
          refine own_g T9 (mkF m 75 #[.val (.int p1), .val (.int p2), .val (.long q3), .second, .val (.int p4), .val (.int p5), .val (.int p6), .val (.int z1), .val (.int z2), .val (.int x1), .val (.int y1), .unset, .unset, .unset] [(.ref b5)]) st9 ?_
          refine own_f T9 (mkF m 77 #[.val (.int p1), .val (.int p2), .val (.long q3), .second, .val (.int p4), .val (.int p5), .val (.int p6), .val (.int z1), .val (.int z2), .val (.int x1), .val (.int y1), .val (.ref b5), .unset, .unset] []) (fun t k => XS.astore X9.here hx rfl (hb hby at_75) rfl rfl (l' := #[.val (.int p1), .val (.int p2), .val (.long q3), .second, .val (.int p4), .val (.int p5), .val (.int p6), .val (.int z1), .val (.int z2), .val (.int x1), .val (.int y1), .val (.ref b5), .unset, .unset]) rfl k) ?_
          obtain ⟨T10, h10, X10, e10, E10, A10, D10, U10, st10⟩ := newO X9 hx hZ hown (own_w hw 20 rfl) (own_w hw 21 rfl) (own_w hw 22 rfl) e9 (g := (mkF m 77 #[.val (.int p1), .val (.int p2), .val (.long q3), .second, .val (.int p4), .val (.int p5), .val (.int p6), .val (.int z1), .val (.int z2), .val (.int x1), .val (.int y1), .val (.ref b5), .unset, .unset] [])) rfl (hb hby at_77) (by decide) (by decide)
          obtain ⟨b10, g10⟩ : ∃ z, z = h9.size := ⟨_, rfl⟩
          rw [← g10] at A10 D10 st10
          have ne10_b5 : b5 ≠ b10 := by rw [g10]; exact Nat.ne_of_lt G9_0.lt
          have ge10 : n0 ≤ b10 := by rw [g10]; exact Zs9
          have Zs10 : n0 ≤ h10.size := Nat.le_trans Zs9 E10.1
          have F_11 := G9_0.ext E10
          have F_12 := G9_1.ext E10
          have F_13 := G9_2.ext E10
          have F_14 := G9_3.ext E10
          have F_15 : Fld Z h10 b10 "com/example/reading_buckets/readingbuckets/SeriesFieldId" "set" "I" (.int 0) := D10 (Or.inr (own_w hw 28 rfl)) (ty := .int) (by decide)
          have F_16 : Fld Z h10 b10 "com/example/reading_buckets/readingbuckets/SeriesFieldId" "series" "I" (.int 0) := D10 (Or.inr (own_w hw 30 rfl)) (ty := .int) (by decide)
          have F_17 : Fld Z h10 b10 "com/example/reading_buckets/readingbuckets/SeriesFieldId" "field" "I" (.int 0) := D10 (Or.inr (own_w hw 32 rfl)) (ty := .int) (by decide)
          refine own_f T10 (mkF m 80 #[.val (.int p1), .val (.int p2), .val (.long q3), .second, .val (.int p4), .val (.int p5), .val (.int p6), .val (.int z1), .val (.int z2), .val (.int x1), .val (.int y1), .val (.ref b5), .unset, .unset] [(.ref b10)]) st10 ?_
          refine own_f T10 (mkF m 81 #[.val (.int p1), .val (.int p2), .val (.long q3), .second, .val (.int p4), .val (.int p5), .val (.int p6), .val (.int z1), .val (.int z2), .val (.int x1), .val (.int y1), .val (.ref b5), .unset, .unset] [(.ref b10), (.ref b10)]) (fun t k => XS.dup X10.here hx rfl (hb hby at_80) rfl rfl k) ?_
          refine own_f T10 (mkF m 83 #[.val (.int p1), .val (.int p2), .val (.long q3), .second, .val (.int p4), .val (.int p5), .val (.int p6), .val (.int z1), .val (.int z2), .val (.int x1), .val (.int y1), .val (.ref b5), .unset, .unset] [(.int p4), (.ref b10), (.ref b10)]) (fun t k => XS.iload X10.here hx rfl (hb hby at_81) rfl k) ?_
          refine own_f T10 (mkF m 85 #[.val (.int p1), .val (.int p2), .val (.long q3), .second, .val (.int p4), .val (.int p5), .val (.int p6), .val (.int z1), .val (.int z2), .val (.int x1), .val (.int y1), .val (.ref b5), .unset, .unset] [(.int x1), (.int p4), (.ref b10), (.ref b10)]) (fun t k => XS.iload X10.here hx rfl (hb hby at_83) rfl k) ?_
          refine own_f T10 (mkF m 87 #[.val (.int p1), .val (.int p2), .val (.long q3), .second, .val (.int p4), .val (.int p5), .val (.int p6), .val (.int z1), .val (.int z2), .val (.int x1), .val (.int y1), .val (.ref b5), .unset, .unset] [(.int y1), (.int x1), (.int p4), (.ref b10), (.ref b10)]) (fun t k => XS.iload X10.here hx rfl (hb hby at_85) rfl k) ?_
          obtain ⟨_, _, ⟨T18, Lq18, kq_18, nq_18⟩, -, X18, ⟨Lc18, hQ18, lq18, yq18, zq18⟩, st18⟩ := X10.specialBack hx (y := (⟨"com/example/reading_buckets/readingbuckets/SeriesFieldId", "<init>", "(III)V"⟩ : MethodName)) rfl hown (mvT hZ (own_w hw 23 rfl)) (mvT hZ (own_w hw 24 rfl)) (mvT hZ (own_w hw 25 rfl)) (by decide) (backOf (W := 1) (rm3 l Z a0 hw [] b10 p4 x1 y1 _ _ _ h10 n0 Zs10 A10 F_15 F_16 F_17 ge10) hZ (own_w hw 25 rfl) (own_w hw 22 rfl) (by decide) (by decide)) (g := (mkF m 87 #[.val (.int p1), .val (.int p2), .val (.long q3), .second, .val (.int p4), .val (.int p5), .val (.int p6), .val (.int z1), .val (.int z2), .val (.int x1), .val (.int y1), .val (.ref b5), .unset, .unset] [(.int y1), (.int x1), (.int p4), (.ref b10), (.ref b10)])) rfl (by rw [hml]; rfl) (Steps.refl _) (a := b10) (argsL := [(.int p4), (.int x1), (.int y1)]) (rest := [(.ref b10)]) (lenOf pd__III_V rfl) rfl (by show 2 * 0 + _ ≤ _; exact Nat.le_of_eq rfl) (hb hby at_87) (fun _ _ => ⟨rfl, e10, (by decide : 0 + 1 + 0 + 1 + 0 ≤ _), (by decide : 0 + 3 + 0 + 3 + 0 ≤ _)⟩)
          dsimp only [Pt.U, Pt.locs, Pt.cells, Pt.slots] at X18 lq18 yq18 zq18 st18 hQ18
          subst lq18 yq18 zq18
          obtain ⟨h18, e18⟩ : ∃ z, T18.heap = z := ⟨_, rfl⟩
          rw [e18] at hQ18
          unfold Q3 at hQ18
          obtain ⟨rfl, Nq18, qh18, G18_0, G18_1, G18_2, G18_3⟩ := hQ18
          have N18 := Fr.app N9 Nq18
          have Zs18 : n0 ≤ h18.size := Nat.le_trans Zs10 qh18.1
          have F_19 := F_11.keep qh18
          have F_20 := F_12.keep qh18 (ninS ne10_b5 nin0)
          have F_21 := F_13.keep qh18 (ninS ne10_b5 nin0)
          have F_22 := F_14.keep qh18 (ninS ne10_b5 nin0)
          refine own_g T18 (mkF m 90 #[.val (.int p1), .val (.int p2), .val (.long q3), .second, .val (.int p4), .val (.int p5), .val (.int p6), .val (.int z1), .val (.int z2), .val (.int x1), .val (.int y1), .val (.ref b5), .unset, .unset] [(.ref b10)]) st18 ?_
          refine own_f T18 (mkF m 92 #[.val (.int p1), .val (.int p2), .val (.long q3), .second, .val (.int p4), .val (.int p5), .val (.int p6), .val (.int z1), .val (.int z2), .val (.int x1), .val (.int y1), .val (.ref b5), .val (.ref b10), .unset] []) (fun t k => XS.astore X18.here hx rfl (hb hby at_90) rfl rfl (l' := #[.val (.int p1), .val (.int p2), .val (.long q3), .second, .val (.int p4), .val (.int p5), .val (.int p6), .val (.int z1), .val (.int z2), .val (.int x1), .val (.int y1), .val (.ref b5), .val (.ref b10), .unset]) rfl k) ?_
          refine own_f T18 (mkF m 94 #[.val (.int p1), .val (.int p2), .val (.long q3), .second, .val (.int p4), .val (.int p5), .val (.int p6), .val (.int z1), .val (.int z2), .val (.int x1), .val (.int y1), .val (.ref b5), .val (.ref b10), .unset] [(.int z1)]) (fun t k => XS.iload X18.here hx rfl (hb hby at_92) rfl k) ?_
          have jn23 : ∀ (z3 : Int32) (jz0 : z1 = 0 → z3 = 0) (jz1 : z2 = 0 → z3 = 0) (jz2 : ¬ z1 = 0 → ¬ z2 = 0 → z3 = 1), own_R p.tables e below (own_P s (Q0 Z p1 p2 q3 p4 p5 p6 h0 n0) room_1.cells room_1.slots) (T18.setTop (mkF m 107 #[.val (.int p1), .val (.int p2), .val (.long q3), .second, .val (.int p4), .val (.int p5), .val (.int p6), .val (.int z1), .val (.int z2), .val (.int x1), .val (.int y1), .val (.ref b5), .val (.ref b10), .unset] [(.int z3)])) := by
            intro z3 jz0 jz1 jz2
            refine own_f T18 (mkF m 109 #[.val (.int p1), .val (.int p2), .val (.long q3), .second, .val (.int p4), .val (.int p5), .val (.int p6), .val (.int z1), .val (.int z2), .val (.int x1), .val (.int y1), .val (.ref b5), .val (.ref b10), .val (.int z3)] []) (fun t k => XS.istore X18.here hx rfl (hb hby at_107) rfl (l' := #[.val (.int p1), .val (.int p2), .val (.long q3), .second, .val (.int p4), .val (.int p5), .val (.int p6), .val (.int z1), .val (.int z2), .val (.int x1), .val (.int y1), .val (.ref b5), .val (.ref b10), .val (.int z3)]) rfl k) ?_
            refine own_f T18 (mkF m 111 #[.val (.int p1), .val (.int p2), .val (.long q3), .second, .val (.int p4), .val (.int p5), .val (.int p6), .val (.int z1), .val (.int z2), .val (.int x1), .val (.int y1), .val (.ref b5), .val (.ref b10), .val (.int z3)] [(.ref b5)]) (fun t k => XS.aload X18.here hx rfl (hb hby at_109) rfl rfl k) ?_
            refine own_f T18 (mkF m 113 #[.val (.int p1), .val (.int p2), .val (.long q3), .second, .val (.int p4), .val (.int p5), .val (.int p6), .val (.int z1), .val (.int z2), .val (.int x1), .val (.int y1), .val (.ref b5), .val (.ref b10), .val (.int z3)] [(.ref b10), (.ref b5)]) (fun t k => XS.aload X18.here hx rfl (hb hby at_111) rfl rfl k) ?_
            obtain ⟨cq24, kq24, qa24, qb24, qc24⟩ := isOf hZ e18 F_19
            obtain ⟨_, _, ⟨T24, Lq24, kq_24, nq_24⟩, -, X24, ⟨Lc24, hQ24, lq24, yq24, zq24⟩, st24⟩ := X18.virtualBack hx (y := (⟨"com/example/reading_buckets/readingbuckets/BucketKey", "isOf", "(Lcom/example/reading_buckets/readingbuckets/SeriesFieldId;)Z"⟩ : MethodName)) (z := (⟨"com/example/reading_buckets/readingbuckets/BucketKey", "isOf", "(Lcom/example/reading_buckets/readingbuckets/SeriesFieldId;)Z"⟩ : MethodName)) hown (mvT hZ (own_w hw 33 rfl)) (mvT hZ (own_w hw 34 rfl)) (notFace_of_selects (args := #[]) (mvT hZ (own_w hw 36 rfl))) (mvT hZ (own_w hw 36 rfl)) (mvT hZ (own_w hw 35 rfl)) (by decide) (backOf (W := 0) (rm6 l Z a0 hw [] b5 b10 _ _ _ _ h18 n0 Zs18 F_20 F_21 G18_0 G18_2 G18_3) hZ (own_w hw 37 rfl) (own_w hw 2 rfl) (by decide) (by decide)) qa24 qc24 (g := (mkF m 113 #[.val (.int p1), .val (.int p2), .val (.long q3), .second, .val (.int p4), .val (.int p5), .val (.int p6), .val (.int z1), .val (.int z2), .val (.int x1), .val (.int y1), .val (.ref b5), .val (.ref b10), .val (.int z3)] [(.ref b10), (.ref b5)])) rfl (by rw [hml]; rfl) (Steps.refl _) (argsL := [(.ref b10)]) (rest := []) (lenOf pd__Lcom_example_reading_buckets_readingbuckets_SeriesFieldId_Z rfl) rfl (by show 2 * 0 + _ ≤ _; exact Nat.le_of_eq rfl) (hb hby at_113) (fun _ _ => ⟨rfl, e18, (by decide : 0 + 1 + 0 + 1 + 0 + 0 ≤ _), (by decide : 0 + 3 + 0 + 3 + 0 + 0 ≤ _)⟩)
            dsimp only [Pt.U, Pt.locs, Pt.cells, Pt.slots] at X24 lq24 yq24 zq24 st24 hQ24
            subst lq24 yq24 zq24
            obtain ⟨h24, e24⟩ : ∃ z, T24.heap = z := ⟨_, rfl⟩
            rw [e24] at hQ24
            unfold Q6 at hQ24
            obtain ⟨rfl, Nq24, qh24⟩ := hQ24
            have N24 := Fr.app N18 Nq24
            rw [qh24] at e24
            refine own_g T24 (mkF m 116 #[.val (.int p1), .val (.int p2), .val (.long q3), .second, .val (.int p4), .val (.int p5), .val (.int p6), .val (.int z1), .val (.int z2), .val (.int x1), .val (.int y1), .val (.ref b5), .val (.ref b10), .val (.int z3)] [(.int (own_io p1 p2 x1 y1))]) st24 ?_
            refine own_f T24 (mkF m 118 #[.val (.int p1), .val (.int p2), .val (.long q3), .second, .val (.int p4), .val (.int p5), .val (.int p6), .val (.int z1), .val (.int z2), .val (.int x1), .val (.int y1), .val (.ref b5), .val (.ref b10), .val (.int z3)] [(.int z3), (.int (own_io p1 p2 x1 y1))]) (fun t k => XS.iload X24.here hx rfl (hb hby at_116) rfl k) ?_
            have hc25 : (own_io p1 p2 x1 y1) = z3 := own_law jx0 jx1 jy0 jy1 jz0 jz1 jz2
            refine own_f T24 (mkF m 121 #[.val (.int p1), .val (.int p2), .val (.long q3), .second, .val (.int p4), .val (.int p5), .val (.int p6), .val (.int z1), .val (.int z2), .val (.int x1), .val (.int y1), .val (.ref b5), .val (.ref b10), .val (.int z3)] []) (fun t k => XS.icmpNo X24.here hx rfl (hb hby at_118) rfl (XT.ii_ne_f hc25) k) ?_
            refine own_f T24 (mkF m 122 #[.val (.int p1), .val (.int p2), .val (.long q3), .second, .val (.int p4), .val (.int p5), .val (.int p6), .val (.int z1), .val (.int z2), .val (.int x1), .val (.int y1), .val (.ref b5), .val (.ref b10), .val (.int z3)] [(.int (1 : Int32))]) (fun t k => XT.iconstV X24.here hx rfl (1 : Int32) (hb hby at_121) (by decide) k) ?_
            refine own_f T24 (mkF m 126 #[.val (.int p1), .val (.int p2), .val (.long q3), .second, .val (.int p4), .val (.int p5), .val (.int p6), .val (.int z1), .val (.int z2), .val (.int x1), .val (.int y1), .val (.ref b5), .val (.ref b10), .val (.int z3)] [(.int (1 : Int32))]) (fun t k => XS.goto X24.here hx rfl (pc0 := 122) (pc' := 126) rfl (hb hby at_122) (by decide) (by decide) k) ?_
            obtain ⟨fs, hr, hrun, hended, hW, hsame⟩ := X24.leave (v := some (.int (1 : Int32))) (fun h => by rw [Bd.returns] at h; cases h)
            refine ⟨_, _, retN X24 hx (t := .boolean) Bd.returns (by simp) (hb hby at_126) hr, hrun, hended, _, _, rfl, ?_, ⟨_, rfl⟩, hW, hsame.mono (by decide) (by decide)⟩
            show Q0 Z p1 p2 q3 p4 p5 p6 h0 n0 _ T24.heap _
            rw [e24]
            exact ⟨rfl, N24⟩
          by_cases hc26 : z1 = 0
          · skip
            refine own_f T18 (mkF m 106 #[.val (.int p1), .val (.int p2), .val (.long q3), .second, .val (.int p4), .val (.int p5), .val (.int p6), .val (.int z1), .val (.int z2), .val (.int x1), .val (.int y1), .val (.ref b5), .val (.ref b10), .unset] []) (fun t k => XS.ifYes X18.here hx rfl (pc0 := 94) (pc' := 106) rfl (hb hby at_94) rfl (XT.i0_eq_t hc26) (by decide) (by decide) k) ?_
            refine own_f T18 (mkF m 107 #[.val (.int p1), .val (.int p2), .val (.long q3), .second, .val (.int p4), .val (.int p5), .val (.int p6), .val (.int z1), .val (.int z2), .val (.int x1), .val (.int y1), .val (.ref b5), .val (.ref b10), .unset] [(.int (0 : Int32))]) (fun t k => XT.iconstV X18.here hx rfl (0 : Int32) (hb hby at_106) (by decide) k) ?_
            exact jn23 (0 : Int32) (by intros; first | rfl | contradiction) (by intros; first | rfl | contradiction) (by intros; first | rfl | contradiction)
          · skip
            refine own_f T18 (mkF m 97 #[.val (.int p1), .val (.int p2), .val (.long q3), .second, .val (.int p4), .val (.int p5), .val (.int p6), .val (.int z1), .val (.int z2), .val (.int x1), .val (.int y1), .val (.ref b5), .val (.ref b10), .unset] []) (fun t k => XS.ifNo X18.here hx rfl (hb hby at_94) rfl (XT.i0_eq_f hc26) k) ?_
            refine own_f T18 (mkF m 99 #[.val (.int p1), .val (.int p2), .val (.long q3), .second, .val (.int p4), .val (.int p5), .val (.int p6), .val (.int z1), .val (.int z2), .val (.int x1), .val (.int y1), .val (.ref b5), .val (.ref b10), .unset] [(.int z2)]) (fun t k => XS.iload X18.here hx rfl (hb hby at_97) rfl k) ?_
            by_cases hc27 : z2 = 0
            · skip
              refine own_f T18 (mkF m 106 #[.val (.int p1), .val (.int p2), .val (.long q3), .second, .val (.int p4), .val (.int p5), .val (.int p6), .val (.int z1), .val (.int z2), .val (.int x1), .val (.int y1), .val (.ref b5), .val (.ref b10), .unset] []) (fun t k => XS.ifYes X18.here hx rfl (pc0 := 99) (pc' := 106) rfl (hb hby at_99) rfl (XT.i0_eq_t hc27) (by decide) (by decide) k) ?_
              refine own_f T18 (mkF m 107 #[.val (.int p1), .val (.int p2), .val (.long q3), .second, .val (.int p4), .val (.int p5), .val (.int p6), .val (.int z1), .val (.int z2), .val (.int x1), .val (.int y1), .val (.ref b5), .val (.ref b10), .unset] [(.int (0 : Int32))]) (fun t k => XT.iconstV X18.here hx rfl (0 : Int32) (hb hby at_106) (by decide) k) ?_
              exact jn23 (0 : Int32) (by intros; first | rfl | contradiction) (by intros; first | rfl | contradiction) (by intros; first | rfl | contradiction)
            · skip
              refine own_f T18 (mkF m 102 #[.val (.int p1), .val (.int p2), .val (.long q3), .second, .val (.int p4), .val (.int p5), .val (.int p6), .val (.int z1), .val (.int z2), .val (.int x1), .val (.int y1), .val (.ref b5), .val (.ref b10), .unset] []) (fun t k => XS.ifNo X18.here hx rfl (hb hby at_99) rfl (XT.i0_eq_f hc27) k) ?_
              refine own_f T18 (mkF m 103 #[.val (.int p1), .val (.int p2), .val (.long q3), .second, .val (.int p4), .val (.int p5), .val (.int p6), .val (.int z1), .val (.int z2), .val (.int x1), .val (.int y1), .val (.ref b5), .val (.ref b10), .unset] [(.int (1 : Int32))]) (fun t k => XT.iconstV X18.here hx rfl (1 : Int32) (hb hby at_102) (by decide) k) ?_
              refine own_f T18 (mkF m 107 #[.val (.int p1), .val (.int p2), .val (.long q3), .second, .val (.int p4), .val (.int p5), .val (.int p6), .val (.int z1), .val (.int z2), .val (.int x1), .val (.int y1), .val (.ref b5), .val (.ref b10), .unset] [(.int (1 : Int32))]) (fun t k => XS.goto X18.here hx rfl (pc0 := 103) (pc' := 107) rfl (hb hby at_103) (by decide) (by decide) k) ?_
              exact jn23 (1 : Int32) (by intros; first | rfl | contradiction) (by intros; first | rfl | contradiction) (by intros; first | rfl | contradiction)
        by_cases hc28 : z2 = 0
        · skip
          refine own_f s₁ (mkF m 54 #[.val (.int p1), .val (.int p2), .val (.long q3), .second, .val (.int p4), .val (.int p5), .val (.int p6), .val (.int z1), .val (.int z2), .val (.int x1), .unset, .unset, .unset, .unset] []) (fun t k => XS.ifYes X0.here hx rfl (pc0 := 47) (pc' := 54) rfl (hb hby at_47) rfl (XT.i0_eq_t hc28) (by decide) (by decide) k) ?_
          refine own_f s₁ (mkF m 55 #[.val (.int p1), .val (.int p2), .val (.long q3), .second, .val (.int p4), .val (.int p5), .val (.int p6), .val (.int z1), .val (.int z2), .val (.int x1), .unset, .unset, .unset, .unset] [(.int p2)]) (fun t k => XS.iloadN X0.here hx rfl (hb hby at_54) rfl k) ?_
          refine own_f s₁ (mkF m 57 #[.val (.int p1), .val (.int p2), .val (.long q3), .second, .val (.int p4), .val (.int p5), .val (.int p6), .val (.int z1), .val (.int z2), .val (.int x1), .unset, .unset, .unset, .unset] [(.int p5), (.int p2)]) (fun t k => XS.iload X0.here hx rfl (hb hby at_55) rfl k) ?_
          refine own_f s₁ (mkF m 59 #[.val (.int p1), .val (.int p2), .val (.long q3), .second, .val (.int p4), .val (.int p5), .val (.int p6), .val (.int z1), .val (.int z2), .val (.int x1), .unset, .unset, .unset, .unset] [(.int (16 : Int32)), (.int p5), (.int p2)]) (fun t k => XT.bipushV X0.here hx rfl (16 : Int32) (hb hby at_57) (by decide) k) ?_
          refine own_f s₁ (mkF m 60 #[.val (.int p1), .val (.int p2), .val (.long q3), .second, .val (.int p4), .val (.int p5), .val (.int p6), .val (.int z1), .val (.int z2), .val (.int x1), .unset, .unset, .unset, .unset] [(.int ((p5.toUInt32 >>> ((16 : Int32) &&& 31).toUInt32).toInt32)), (.int p2)]) (fun t k => XS.iushr X0.here hx rfl (hb hby at_59) rfl k) ?_
          refine own_f s₁ (mkF m 61 #[.val (.int p1), .val (.int p2), .val (.long q3), .second, .val (.int p4), .val (.int p5), .val (.int p6), .val (.int z1), .val (.int z2), .val (.int x1), .unset, .unset, .unset, .unset] [(.int (1 : Int32)), (.int ((p5.toUInt32 >>> ((16 : Int32) &&& 31).toUInt32).toInt32)), (.int p2)]) (fun t k => XT.iconstV X0.here hx rfl (1 : Int32) (hb hby at_60) (by decide) k) ?_
          refine own_f s₁ (mkF m 62 #[.val (.int p1), .val (.int p2), .val (.long q3), .second, .val (.int p4), .val (.int p5), .val (.int p6), .val (.int z1), .val (.int z2), .val (.int x1), .unset, .unset, .unset, .unset] [(.int (((p5.toUInt32 >>> ((16 : Int32) &&& 31).toUInt32).toInt32) ||| (1 : Int32))), (.int p2)]) (fun t k => XS.ior X0.here hx rfl (hb hby at_61) rfl k) ?_
          refine own_f s₁ (mkF m 63 #[.val (.int p1), .val (.int p2), .val (.long q3), .second, .val (.int p4), .val (.int p5), .val (.int p6), .val (.int z1), .val (.int z2), .val (.int x1), .unset, .unset, .unset, .unset] [(.int (p2 ^^^ (((p5.toUInt32 >>> ((16 : Int32) &&& 31).toUInt32).toInt32) ||| (1 : Int32))))]) (fun t k => XS.ixor X0.here hx rfl (hb hby at_62) rfl k) ?_
          exact jn4 (p2 ^^^ (((p5.toUInt32 >>> ((16 : Int32) &&& 31).toUInt32).toInt32) ||| (1 : Int32))) (by intros; first | rfl | contradiction) (by intros; first | rfl | contradiction)
        · skip
          refine own_f s₁ (mkF m 50 #[.val (.int p1), .val (.int p2), .val (.long q3), .second, .val (.int p4), .val (.int p5), .val (.int p6), .val (.int z1), .val (.int z2), .val (.int x1), .unset, .unset, .unset, .unset] []) (fun t k => XS.ifNo X0.here hx rfl (hb hby at_47) rfl (XT.i0_eq_f hc28) k) ?_
          refine own_f s₁ (mkF m 51 #[.val (.int p1), .val (.int p2), .val (.long q3), .second, .val (.int p4), .val (.int p5), .val (.int p6), .val (.int z1), .val (.int z2), .val (.int x1), .unset, .unset, .unset, .unset] [(.int p2)]) (fun t k => XS.iloadN X0.here hx rfl (hb hby at_50) rfl k) ?_
          refine own_f s₁ (mkF m 63 #[.val (.int p1), .val (.int p2), .val (.long q3), .second, .val (.int p4), .val (.int p5), .val (.int p6), .val (.int z1), .val (.int z2), .val (.int x1), .unset, .unset, .unset, .unset] [(.int p2)]) (fun t k => XS.goto X0.here hx rfl (pc0 := 51) (pc' := 63) rfl (hb hby at_51) (by decide) (by decide) k) ?_
          exact jn4 p2 (by intros; first | rfl | contradiction) (by intros; first | rfl | contradiction)
      by_cases hc29 : z1 = 0
      · skip
        refine own_f s₁ (mkF m 37 #[.val (.int p1), .val (.int p2), .val (.long q3), .second, .val (.int p4), .val (.int p5), .val (.int p6), .val (.int z1), .val (.int z2), .unset, .unset, .unset, .unset, .unset] []) (fun t k => XS.ifYes X0.here hx rfl (pc0 := 30) (pc' := 37) rfl (hb hby at_30) rfl (XT.i0_eq_t hc29) (by decide) (by decide) k) ?_
        refine own_f s₁ (mkF m 38 #[.val (.int p1), .val (.int p2), .val (.long q3), .second, .val (.int p4), .val (.int p5), .val (.int p6), .val (.int z1), .val (.int z2), .unset, .unset, .unset, .unset, .unset] [(.int p1)]) (fun t k => XS.iloadN X0.here hx rfl (hb hby at_37) rfl k) ?_
        refine own_f s₁ (mkF m 40 #[.val (.int p1), .val (.int p2), .val (.long q3), .second, .val (.int p4), .val (.int p5), .val (.int p6), .val (.int z1), .val (.int z2), .unset, .unset, .unset, .unset, .unset] [(.int p5), (.int p1)]) (fun t k => XS.iload X0.here hx rfl (hb hby at_38) rfl k) ?_
        refine own_f s₁ (mkF m 41 #[.val (.int p1), .val (.int p2), .val (.long q3), .second, .val (.int p4), .val (.int p5), .val (.int p6), .val (.int z1), .val (.int z2), .unset, .unset, .unset, .unset, .unset] [(.int (1 : Int32)), (.int p5), (.int p1)]) (fun t k => XT.iconstV X0.here hx rfl (1 : Int32) (hb hby at_40) (by decide) k) ?_
        refine own_f s₁ (mkF m 42 #[.val (.int p1), .val (.int p2), .val (.long q3), .second, .val (.int p4), .val (.int p5), .val (.int p6), .val (.int z1), .val (.int z2), .unset, .unset, .unset, .unset, .unset] [(.int (p5 ||| (1 : Int32))), (.int p1)]) (fun t k => XS.ior X0.here hx rfl (hb hby at_41) rfl k) ?_
        refine own_f s₁ (mkF m 43 #[.val (.int p1), .val (.int p2), .val (.long q3), .second, .val (.int p4), .val (.int p5), .val (.int p6), .val (.int z1), .val (.int z2), .unset, .unset, .unset, .unset, .unset] [(.int (p1 ^^^ (p5 ||| (1 : Int32))))]) (fun t k => XS.ixor X0.here hx rfl (hb hby at_42) rfl k) ?_
        exact jn3 (p1 ^^^ (p5 ||| (1 : Int32))) (by intros; first | rfl | contradiction) (by intros; first | rfl | contradiction)
      · skip
        refine own_f s₁ (mkF m 33 #[.val (.int p1), .val (.int p2), .val (.long q3), .second, .val (.int p4), .val (.int p5), .val (.int p6), .val (.int z1), .val (.int z2), .unset, .unset, .unset, .unset, .unset] []) (fun t k => XS.ifNo X0.here hx rfl (hb hby at_30) rfl (XT.i0_eq_f hc29) k) ?_
        refine own_f s₁ (mkF m 34 #[.val (.int p1), .val (.int p2), .val (.long q3), .second, .val (.int p4), .val (.int p5), .val (.int p6), .val (.int z1), .val (.int z2), .unset, .unset, .unset, .unset, .unset] [(.int p1)]) (fun t k => XS.iloadN X0.here hx rfl (hb hby at_33) rfl k) ?_
        refine own_f s₁ (mkF m 43 #[.val (.int p1), .val (.int p2), .val (.long q3), .second, .val (.int p4), .val (.int p5), .val (.int p6), .val (.int z1), .val (.int z2), .unset, .unset, .unset, .unset, .unset] [(.int p1)]) (fun t k => XS.goto X0.here hx rfl (pc0 := 34) (pc' := 43) rfl (hb hby at_34) (by decide) (by decide) k) ?_
        exact jn3 p1 (by intros; first | rfl | contradiction) (by intros; first | rfl | contradiction)
    by_cases hc30 : (p6 &&& (2 : Int32)) = 0
    · skip
      refine own_f s₁ (mkF m 25 #[.val (.int p1), .val (.int p2), .val (.long q3), .second, .val (.int p4), .val (.int p5), .val (.int p6), .val (.int z1), .unset, .unset, .unset, .unset, .unset, .unset] []) (fun t k => XS.ifYes X0.here hx rfl (pc0 := 18) (pc' := 25) rfl (hb hby at_18) rfl (XT.i0_eq_t hc30) (by decide) (by decide) k) ?_
      refine own_f s₁ (mkF m 26 #[.val (.int p1), .val (.int p2), .val (.long q3), .second, .val (.int p4), .val (.int p5), .val (.int p6), .val (.int z1), .unset, .unset, .unset, .unset, .unset, .unset] [(.int (0 : Int32))]) (fun t k => XT.iconstV X0.here hx rfl (0 : Int32) (hb hby at_25) (by decide) k) ?_
      exact jn2 (0 : Int32)
    · skip
      refine own_f s₁ (mkF m 21 #[.val (.int p1), .val (.int p2), .val (.long q3), .second, .val (.int p4), .val (.int p5), .val (.int p6), .val (.int z1), .unset, .unset, .unset, .unset, .unset, .unset] []) (fun t k => XS.ifNo X0.here hx rfl (hb hby at_18) rfl (XT.i0_eq_f hc30) k) ?_
      refine own_f s₁ (mkF m 22 #[.val (.int p1), .val (.int p2), .val (.long q3), .second, .val (.int p4), .val (.int p5), .val (.int p6), .val (.int z1), .unset, .unset, .unset, .unset, .unset, .unset] [(.int (1 : Int32))]) (fun t k => XT.iconstV X0.here hx rfl (1 : Int32) (hb hby at_21) (by decide) k) ?_
      refine own_f s₁ (mkF m 26 #[.val (.int p1), .val (.int p2), .val (.long q3), .second, .val (.int p4), .val (.int p5), .val (.int p6), .val (.int z1), .unset, .unset, .unset, .unset, .unset, .unset] [(.int (1 : Int32))]) (fun t k => XS.goto X0.here hx rfl (pc0 := 22) (pc' := 26) rfl (hb hby at_22) (by decide) (by decide) k) ?_
      exact jn2 (1 : Int32)
  by_cases hc31 : (p6 &&& (1 : Int32)) = 0
  · skip
    refine own_f s₁ (mkF m 11 #[.val (.int p1), .val (.int p2), .val (.long q3), .second, .val (.int p4), .val (.int p5), .val (.int p6), .unset, .unset, .unset, .unset, .unset, .unset, .unset] []) (fun t k => XS.ifYes X0.here hx rfl (pc0 := 4) (pc' := 11) rfl (hb hby at_4) rfl (XT.i0_eq_t hc31) (by decide) (by decide) k) ?_
    refine own_f s₁ (mkF m 12 #[.val (.int p1), .val (.int p2), .val (.long q3), .second, .val (.int p4), .val (.int p5), .val (.int p6), .unset, .unset, .unset, .unset, .unset, .unset, .unset] [(.int (0 : Int32))]) (fun t k => XT.iconstV X0.here hx rfl (0 : Int32) (hb hby at_11) (by decide) k) ?_
    exact jn1 (0 : Int32)
  · skip
    refine own_f s₁ (mkF m 7 #[.val (.int p1), .val (.int p2), .val (.long q3), .second, .val (.int p4), .val (.int p5), .val (.int p6), .unset, .unset, .unset, .unset, .unset, .unset, .unset] []) (fun t k => XS.ifNo X0.here hx rfl (hb hby at_4) rfl (XT.i0_eq_f hc31) k) ?_
    refine own_f s₁ (mkF m 8 #[.val (.int p1), .val (.int p2), .val (.long q3), .second, .val (.int p4), .val (.int p5), .val (.int p6), .unset, .unset, .unset, .unset, .unset, .unset, .unset] [(.int (1 : Int32))]) (fun t k => XT.iconstV X0.here hx rfl (1 : Int32) (hb hby at_7) (by decide) k) ?_
    refine own_f s₁ (mkF m 12 #[.val (.int p1), .val (.int p2), .val (.long q3), .second, .val (.int p4), .val (.int p5), .val (.int p6), .unset, .unset, .unset, .unset, .unset, .unset, .unset] [(.int (1 : Int32))]) (fun t k => XS.goto X0.here hx rfl (pc0 := 8) (pc' := 12) rfl (hb hby at_8) (by decide) (by decide) k) ?_
    exact jn1 (1 : Int32)
set_option maxRecDepth 65536 in
set_option maxHeartbeats 40000000 in
theorem comes_1 {Post : Tables → Env → Array Value → State → Outcome → State → Prop} (hpost : ∀ tb e args s v u, (limb_1_1.after args s (.returned v) u = true ∧ limb_1_2.after args s (.returned v) u = true ∧ True) → FrameEnd s (.returned v) u (Jvm.fieldLocs frame_1_writes args s ++ Jvm.arrayLocs frame_1_arrays args s ++ Jvm.staticLocs frame_1_statics s) 16 128 → Post tb e args s (.returned v) u) :
    ArmFor flags0 classFile x code maxLocals ret World_1 tables_1 room_1 Calls_1 rest_1 Pre_1 Post := by
  intro l hfl _ _ p e ha hc hk s m args below hf hA hF happ hP
  obtain ⟨hcalls, hrest, hpre⟩ := hP
  obtain ⟨-, -, -, hnamed, -, -, -, hat⟩ := (Spec.applies_iff hf).mp happ
  obtain ⟨hg, hn⟩ := and_e (Cond.before_iff.mp (show (Jvm.Cond.and given_1 narrow_1).before args s = true from hpre))
  obtain ⟨g0, r0⟩ := and_e hg
  obtain ⟨g1, r1⟩ := and_e r0
  obtain ⟨g2, r2⟩ := and_e r1
  obtain ⟨g3, r3⟩ := and_e r2
  obtain ⟨g4, r4⟩ := and_e r3
  obtain ⟨g5, r5⟩ := and_e r4
  obtain ⟨w0, w1, w2, w3, w4, w5, rfl⟩ : ∃ w0 w1 w2 w3 w4 w5 : Value, args = #[w0, w1, w2, w3, w4, w5] := by
    have hs : args.size = 6 := by simpa [Cond.value, given_1] using g0
    obtain ⟨L⟩ := args
    match L, hs with
    | [w0, w1, w2, w3, w4, w5], _ => exact ⟨w0, w1, w2, w3, w4, w5, rfl⟩
  have hw := fun d (hd : d ∈ tables_1) => atoms_spec (ws := Jvm.Cond.code x code maxLocals ret :: tables_1) hat d (List.mem_cons_of_mem _ hd)
  have hfit : Fit s := fun {y c} hc i hi => by
    obtain ⟨ha, rfl⟩ := Array.getElem?_eq_some_iff.mp hc
    have q := List.all_eq_true.mp ((Array.all_eq_true_iff_forall_mem.mp hF) _ (Array.getElem_mem ha)) i (List.mem_range.mpr hi)
    simpa [Array.getElem?_eq_getElem hi] using q
  obtain ⟨i0, ev0⟩ := is_v g1
  obtain rfl : w0 = (.int i0) := Option.some.inj ev0
  obtain ⟨i1, ev1⟩ := is_v g2
  obtain rfl : w1 = (.int i1) := Option.some.inj ev1
  obtain ⟨i2, ev2⟩ := isL_v g3
  obtain rfl : w2 = (.long i2) := Option.some.inj ev2
  obtain ⟨i3, ev3⟩ := is_v g4
  obtain rfl : w3 = (.int i3) := Option.some.inj ev3
  obtain ⟨i4, ev4⟩ := is_v g5
  obtain rfl : w4 = (.int i4) := Option.some.inj ev4
  obtain ⟨i5, ev5⟩ := is_v r5
  obtain rfl : w5 = (.int i5) := Option.some.inj ev5
  obtain ⟨n, o, h1, h2, h3, _, L, rfl, ⟨rfl, N⟩, hq⟩ := rm0 l s _ hw tables_1 i0 i1 i2 i3 i4 i5 s.heap s.heap.size (Nat.le_refl _)  p e ha hc hk s m _ below hf ((Spec.applies_iff_loose hf).mp happ).1 ⟨rfl, State.Warmed39.refl s, rfl⟩ trivial
  refine ⟨n, _, h1, h2, h3, hpost _ _ _ _ _ _ ⟨Cond.after_iff.mpr rfl, Cond.after_iff.mpr (eq_i res_at (Term.int_eval (1)) rfl), trivial⟩ ⟨hq.1, hq.2.1, (hq.2.2.sift fun y hy => Or.inr (N y hy)).mono (by decide) (by decide)⟩⟩
theorem main_1_1 : Claimed_1_1 := comes_1 fun _ _ _ _ _ _ h hF => ⟨h.1, hF⟩
theorem main_1_2 : Claimed_1_2 := comes_1 fun _ _ _ _ _ _ h hF => ⟨h.2.1, hF⟩
end Jvm.Pilot.@@N@@
namespace Jvm.Pilot.@@N@@
open Jvm Jvm.ClassFile Sem Op Lib Jvm.Free Jvm.Stand Jvm.Pilot.@@N@@.Jvm.D
/-! MADE BY PROGRAM (witnessworld.py) out of the Statement's table words and the real class files: 12 classes; the members and pool entries that the words name. The judged class is class 1, her method 1. -/
namespace start1
open Jvm.ClassFile
def u (s : String) : CpInfo := .utf8 (stringToUtf16 s)
/-- a pool by its gaps: so many unusable entries, then the entry; so many at the end -/
def gap : Nat → List CpInfo → List CpInfo
  | 0, r => r
  | n + 1, r => .unusable :: gap n r
def poolList (es : List (Nat × CpInfo)) (last : Nat) : List CpInfo := es.foldr (fun e r => gap e.1 (e.2 :: r)) (gap last [])
def pool (es : List (Nat × CpInfo)) (last : Nat) : Array CpInfo := ⟨poolList es last⟩
def fileOf (pool : Array CpInfo) (this : Nat) (attrs : Array Attribute := #[]) (ms : Array MethodInfo := #[]) (fl : Nat := 33) (sup : Nat := 0) (ifs : Array Nat := #[]) (fds : Array FieldInfo := #[]) : ClassFile where
  minorVersion := 0
  majorVersion := 65
  constantPool := pool
  accessFlags := fl
  thisClass := this
  superClass := sup
  interfaces := ifs
  fields := fds
  methods := ms
  attributes := attrs
def plain (name : String) (sup : Option ClassId) : Class where
  name := name
  kind := .ordinary
  loader := none
  accessFlags := 33
  super := sup
  interfaces := #[]
  cf := none
  fields := #[]
  methods := #[]
  instanceTypes := #[]
  staticTypes := #[]
  resolved := #[]
  callSites := []
  init := .initialized
  statics := none
  mirror := none

def pool0 : Array CpInfo := pool [(5, u "<init>"), (0, u "()V"), (1, .class_ 10), (1, u "java/lang/Object")] 113

def k0c0 : Code := { maxStack := 0, maxLocals := 1, code := object_method_1_code, exceptionTable := #[], attributes := #[] }
def k0m0 : Method := { name := "<init>", desc := "()V", sig := { parameters := [], returnType := none }, accessFlags := 1, code := some k0c0 }
/-- java/lang/Object -/
def k0 : Class := { plain "java/lang/Object" none with
  accessFlags := 33
  interfaces := #[]
  cf := some (fileOf pool0 8 #[] #[{ accessFlags := 1, nameIndex := 5, descriptorIndex := 6, attributes := #[] }] 33 0 #[] #[])
  fields := #[]
  methods := #[k0m0]
  instanceTypes := #[]
  staticTypes := #[]
  resolved := Array.replicate 124 none
  statics := none }

def pool1 : Array CpInfo := pool [(2, .class_ 4), (1, u "java/lang/Object"), (0, u "<init>"), (0, u "()V"), (0, .class_ 8), (0, u "com/example/reading_buckets/readingbuckets/BucketKey"), (0, .methodref 7 10), (0, .nameAndType 5 11), (0, u "(IIJ)V"), (0, .class_ 13), (0, u "com/example/reading_buckets/readingbuckets/SeriesFieldId"), (0, .methodref 12 15), (0, .nameAndType 5 16), (0, u "(III)V"), (0, .methodref 7 18), (0, .nameAndType 19 20), (0, u "isOf"), (0, u "(Lcom/example/reading_buckets/readingbuckets/SeriesFieldId;)Z"), (0, .class_ 22), (0, u "com/example/reading_buckets/readingbuckets/BucketKeyIsOfPinLaw"), (2, u "law"), (0, u "(IIJIII)Z")] 3

def k1m0 : Method := { name := "<init>", desc := "()V", sig := { parameters := [], returnType := none }, accessFlags := 1, code := none }
def k1c1 : Code := { maxStack := 6, maxLocals := 14, code := code, exceptionTable := #[], attributes := #[] }
def k1m1 : Method := { name := "law", desc := "(IIJIII)Z", sig := { parameters := [.int, .int, .long, .int, .int, .int], returnType := some .boolean }, accessFlags := 9, code := some k1c1 }
/-- com/example/reading_buckets/readingbuckets/BucketKeyIsOfPinLaw -/
def k1 : Class := { plain "com/example/reading_buckets/readingbuckets/BucketKeyIsOfPinLaw" (some 0) with
  accessFlags := 49
  interfaces := #[]
  cf := some (fileOf pool1 21 #[] #[{ accessFlags := 1, nameIndex := 5, descriptorIndex := 6, attributes := #[] }, { accessFlags := 9, nameIndex := 25, descriptorIndex := 26, attributes := #[] }] 49 2 #[] #[])
  fields := #[]
  methods := #[k1m0, k1m1]
  instanceTypes := #[]
  staticTypes := #[]
  resolved := Array.replicate 30 none
  statics := none }

def pool2 : Array CpInfo := pool [(1, .methodref 2 3), (0, .class_ 4), (0, .nameAndType 5 6), (0, u "java/lang/Object"), (0, u "<init>"), (0, u "()V"), (0, .class_ 8), (0, u "java/lang/Record")] 13

def k2c0 : Code := { maxStack := 1, maxLocals := 1, code := jdk_30_method_1_code, exceptionTable := #[], attributes := #[] }
def k2m0 : Method := { name := "<init>", desc := "()V", sig := { parameters := [], returnType := none }, accessFlags := 4, code := some k2c0 }
/-- java/lang/Record -/
def k2 : Class := { plain "java/lang/Record" (some 0) with
  accessFlags := 1057
  interfaces := #[]
  cf := some (fileOf pool2 7 #[] #[{ accessFlags := 4, nameIndex := 5, descriptorIndex := 6, attributes := #[] }] 1057 2 #[] #[])
  fields := #[]
  methods := #[k2m0]
  instanceTypes := #[]
  staticTypes := #[]
  resolved := Array.replicate 22 none
  statics := none }

def pool3 : Array CpInfo := pool [(1, .class_ 2), (0, u "java/lang/Comparable"), (0, .class_ 4), (0, u "java/lang/Object")] 7

/-- java/lang/Comparable -/
def k3 : Class := { plain "java/lang/Comparable" (some 0) with
  accessFlags := 1537
  interfaces := #[]
  cf := some (fileOf pool3 1 #[] #[] 1537 3 #[] #[])
  fields := #[]
  methods := #[]
  instanceTypes := #[]
  staticTypes := #[]
  resolved := Array.replicate 12 none
  statics := none }

def pool4 : Array CpInfo := pool [(1, .methodref 2 3), (0, .class_ 4), (0, .nameAndType 5 6), (0, u "java/lang/Record"), (0, u "<init>"), (0, u "()V"), (0, .fieldref 8 9), (0, .class_ 10), (0, .nameAndType 11 12), (0, u "com/example/reading_buckets/readingbuckets/BucketKey"), (0, u "series"), (0, u "I"), (0, .fieldref 8 14), (0, .nameAndType 15 12), (0, u "field"), (0, .fieldref 8 17), (0, .nameAndType 18 19), (0, u "time"), (0, u "J"), (0, .methodref 21 22), (0, .class_ 23), (0, .nameAndType 11 24), (0, u "com/example/reading_buckets/readingbuckets/SeriesFieldId"), (0, u "()I"), (0, .methodref 21 26), (0, .nameAndType 15 24), (2, u "(IIJ)V"), (26, .class_ 57), (0, u "java/lang/Comparable"), (5, u "isOf"), (0, u "(Lcom/example/reading_buckets/readingbuckets/SeriesFieldId;)Z")] 29

def k4c0 : Code := { maxStack := 3, maxLocals := 5, code := prog_3_method_1_code, exceptionTable := #[], attributes := #[] }
def k4m0 : Method := { name := "<init>", desc := "(IIJ)V", sig := { parameters := [.int, .int, .long], returnType := none }, accessFlags := 0, code := some k4c0 }
def k4c1 : Code := { maxStack := 2, maxLocals := 2, code := prog_3_method_3_code, exceptionTable := #[], attributes := #[] }
def k4m1 : Method := { name := "isOf", desc := "(Lcom/example/reading_buckets/readingbuckets/SeriesFieldId;)Z", sig := { parameters := [(.object "com/example/reading_buckets/readingbuckets/SeriesFieldId")], returnType := some .boolean }, accessFlags := 0, code := some k4c1 }
/-- com/example/reading_buckets/readingbuckets/BucketKey -/
def k4 : Class := { plain "com/example/reading_buckets/readingbuckets/BucketKey" (some 2) with
  accessFlags := 48
  interfaces := #[3]
  cf := some (fileOf pool4 8 #[] #[{ accessFlags := 0, nameIndex := 5, descriptorIndex := 29, attributes := #[] }, { accessFlags := 0, nameIndex := 63, descriptorIndex := 64, attributes := #[] }] 48 2 #[56] #[{ accessFlags := 18, nameIndex := 11, descriptorIndex := 12, attributes := #[] }, { accessFlags := 18, nameIndex := 15, descriptorIndex := 12, attributes := #[] }, { accessFlags := 18, nameIndex := 18, descriptorIndex := 19, attributes := #[] }])
  fields := #[{ name := "series", type := .int, accessFlags := 18, slot := 0, constantValue := 0 }, { name := "field", type := .int, accessFlags := 18, slot := 1, constantValue := 0 }, { name := "time", type := .long, accessFlags := 18, slot := 2, constantValue := 0 }]
  methods := #[k4m0, k4m1]
  instanceTypes := #[.int, .int, .long]
  staticTypes := #[]
  resolved := Array.replicate 94 none
  statics := none }

def pool5 : Array CpInfo := pool [(1, .methodref 2 3), (0, .class_ 4), (0, .nameAndType 5 6), (0, u "java/lang/Record"), (0, u "<init>"), (0, u "()V"), (0, .fieldref 8 9), (0, .class_ 10), (0, .nameAndType 11 12), (0, u "com/example/reading_buckets/readingbuckets/SeriesFieldId"), (0, u "set"), (0, u "I"), (0, .fieldref 8 14), (0, .nameAndType 15 12), (0, u "series"), (0, .fieldref 8 17), (0, .nameAndType 18 12), (0, u "field"), (16, u "(III)V"), (5, u "()I")] 31

def k5c0 : Code := { maxStack := 2, maxLocals := 4, code := prog_35_method_1_code, exceptionTable := #[], attributes := #[] }
def k5m0 : Method := { name := "<init>", desc := "(III)V", sig := { parameters := [.int, .int, .int], returnType := none }, accessFlags := 0, code := some k5c0 }
def k5c1 : Code := { maxStack := 1, maxLocals := 1, code := prog_35_method_7_code, exceptionTable := #[], attributes := #[] }
def k5m1 : Method := { name := "series", desc := "()I", sig := { parameters := [], returnType := some .int }, accessFlags := 1, code := some k5c1 }
def k5c2 : Code := { maxStack := 1, maxLocals := 1, code := prog_35_method_8_code, exceptionTable := #[], attributes := #[] }
def k5m2 : Method := { name := "field", desc := "()I", sig := { parameters := [], returnType := some .int }, accessFlags := 1, code := some k5c2 }
/-- com/example/reading_buckets/readingbuckets/SeriesFieldId -/
def k5 : Class := { plain "com/example/reading_buckets/readingbuckets/SeriesFieldId" (some 2) with
  accessFlags := 48
  interfaces := #[]
  cf := some (fileOf pool5 8 #[] #[{ accessFlags := 0, nameIndex := 5, descriptorIndex := 35, attributes := #[] }, { accessFlags := 1, nameIndex := 15, descriptorIndex := 41, attributes := #[] }, { accessFlags := 1, nameIndex := 18, descriptorIndex := 41, attributes := #[] }] 48 2 #[] #[{ accessFlags := 18, nameIndex := 11, descriptorIndex := 12, attributes := #[] }, { accessFlags := 18, nameIndex := 15, descriptorIndex := 12, attributes := #[] }, { accessFlags := 18, nameIndex := 18, descriptorIndex := 12, attributes := #[] }])
  fields := #[{ name := "set", type := .int, accessFlags := 18, slot := 0, constantValue := 0 }, { name := "series", type := .int, accessFlags := 18, slot := 1, constantValue := 0 }, { name := "field", type := .int, accessFlags := 18, slot := 2, constantValue := 0 }]
  methods := #[k5m0, k5m1, k5m2]
  instanceTypes := #[.int, .int, .int]
  staticTypes := #[]
  resolved := Array.replicate 73 none
  statics := none }

def pool6 : Array CpInfo := pool [(1, u "java/lang/Cloneable"), (0, .class_ 1), (0, u "java/lang/Object"), (0, .class_ 3)] 3

/-- java/lang/Cloneable -/
def k6 : Class := { plain "java/lang/Cloneable" (some 0) with
  accessFlags := 1537
  interfaces := #[]
  cf := some (fileOf pool6 2 #[] #[] 1537 4 #[] #[])
  fields := #[]
  methods := #[]
  instanceTypes := #[]
  staticTypes := #[]
  resolved := Array.replicate 8 none
  statics := none }

def pool7 : Array CpInfo := pool [(1, u "java/io/Serializable"), (0, .class_ 1), (0, u "java/lang/Object"), (0, .class_ 3)] 3

/-- java/io/Serializable -/
def k7 : Class := { plain "java/io/Serializable" (some 0) with
  accessFlags := 1537
  interfaces := #[]
  cf := some (fileOf pool7 2 #[] #[] 1537 4 #[] #[])
  fields := #[]
  methods := #[]
  instanceTypes := #[]
  staticTypes := #[]
  resolved := Array.replicate 8 none
  statics := none }

/-- the primitive byte -/
def k8 : Class := { plain "byte" none with kind := .primitive 'B', accessFlags := 0x411 }
/-- [B -/
def k9 : Class := { plain "[B" (some 0) with kind := .array 8 .byte, interfaces := #[6, 7], accessFlags := 1041 }

/-- the primitive int -/
def k10 : Class := { plain "int" none with kind := .primitive 'I', accessFlags := 0x411 }
/-- [I -/
def k11 : Class := { plain "[I" (some 0) with kind := .array 10 .int, interfaces := #[6, 7], accessFlags := 1041 }

def heap : Heap := #[]
def classes : Array Class := #[k0, k1, k2, k3, k4, k5, k6, k7, k8, k9, k10, k11]
def interned : List (Array UInt16 × Addr) := []
def slotsUsed : Nat := 0
def theMethod : MethodId := ⟨1, 1⟩
def args0 : Array Value := #[.int 5, .int 6, .long 7, .int 8, .int 9, .int 1]
def aboutOver (below : List Frame) : State where
  vm := { classes := classes, interned := interned.toArray }
  heap := heap
  slotsUsed := slotsUsed
  threads := #[{ frames := .invoking theMethod args0 :: below }]
def below0 : List Frame := [.native { method := ⟨0, 0⟩, args := #[] }]
def about1 : State := aboutOver below0
def p0 : Program := .bare "" "" ""
def e0 : Env := launch0.env 0 0 0
theorem w_frames : about1.frames = Frame.invoking theMethod args0 :: below0 := rfl
set_option maxRecDepth 65536 in
theorem w_args : argsFit about1.vm theMethod args0 = true := by decide +kernel
set_option maxRecDepth 65536 in
theorem w_heap : heapFits about1 = true := by decide +kernel
set_option maxRecDepth 65536 in
theorem w_runnable : about1.curStatus? = some .runnable := by decide +kernel
set_option maxRecDepth 65536 in
theorem w_alone : about1.alone = true := by decide +kernel
set_option maxRecDepth 65536 in
theorem w_named : about1.methodNamed? x = some theMethod := by decide +kernel
set_option maxRecDepth 65536 in
theorem w_hears : about1.hears theMethod below0 = true := by decide +kernel
set_option maxRecDepth 65536 in
theorem w_ripe : about1.ripe theMethod args0 below0 = true := by decide +kernel
theorem w_running : about1.status = .running := rfl
set_option maxRecDepth 65536 in
theorem w_room : about1.hasRoom e0.platform room_1 = true :=
  launch0.hasRoom_least _ room_1 (by decide +kernel) (by decide +kernel) (by decide +kernel) (by decide +kernel) (by decide +kernel) (by decide +kernel)
theorem allAtoms_all (ts : List Jvm.Cond) (a : Array Jvm.Value) (st : Jvm.State) : (allAtoms ts).before a st = ts.all (fun c => c.before a st) := by
  induction ts with
  | nil => rfl
  | cons c t ih =>
    show (Jvm.Cond.and c (allAtoms t)).before a st = _
    rw [Jvm.Cond.before_and, ih, List.all_cons]
def words1 : List Jvm.Cond := Jvm.Cond.code x code maxLocals ret :: tables_1
/-- a 'code' word, met by the world's own term for the bytes: nothing is compared byte by byte -/
theorem code_word {y : MethodName} {bytes : ByteArray} {mx : Nat} {rt : Option FieldType} {a : Array Value} {s : State} {m : MethodId} {meth : Method} {c : Code} (h1 : s.methodNamed? y = some m) (h2 : s.vm.method? m = some meth) (h3 : meth.code = some c) (h4 : c.code = bytes)
    (h5 : (c.maxLocals == mx && c.exceptionTable.isEmpty && decide (c.maxStack ≤ mostOperands) && decide (meth.sig.returnType = rt) && !meth.locks && decide (parseMethodDescriptor y.desc = some meth.sig)) = true) : (Jvm.Cond.code y bytes mx rt).before a s = true := by
  simp only [Bool.and_eq_true, beq_iff_eq, Bool.not_eq_true', decide_eq_true_eq] at h5
  obtain ⟨⟨⟨⟨⟨g1, g2⟩, g3⟩, g4⟩, g5⟩, g6⟩ := h5
  simp [Cond.before, Cond.holds, Cond.value, h1, h2, h3, h4, g1, g2, g3, g4, g5, g6]
def isCode : Jvm.Cond → Bool
  | .code _ _ _ _ => true
  | _ => false
theorem all_split {L : List Jvm.Cond} {P : Jvm.Cond → Bool} (h1 : L.all (fun c => isCode c || P c) = true) (h2 : ∀ c ∈ L.filter isCode, P c = true) : L.all P = true := by
  refine List.all_eq_true.mpr fun c hc => ?_
  have h := List.all_eq_true.mp h1 c hc
  rcases Bool.eq_false_or_eq_true (isCode c) with hi | hi
  · exact h2 c (List.mem_filter.mpr ⟨hc, hi⟩)
  · simpa [hi] using h
set_option maxRecDepth 65536 in
theorem w_c0 : (Jvm.Cond.code x code maxLocals ret).before args0 about1 = true := code_word (m := ⟨1, 1⟩) (meth := k1m1) (c := k1c1) (by decide +kernel) rfl rfl rfl (by decide +kernel)
set_option maxRecDepth 65536 in
theorem w_c1 : (Jvm.Cond.code ({ cls := "com/example/reading_buckets/readingbuckets/BucketKey", name := "<init>", desc := "(IIJ)V" } : Jvm.MethodName) prog_3_method_1_code (5 : Nat) (Option.none : Option Jvm.ClassFile.FieldType)).before args0 about1 = true := code_word (m := ⟨4, 0⟩) (meth := k4m0) (c := k4c0) (by decide +kernel) rfl rfl rfl (by decide +kernel)
set_option maxRecDepth 65536 in
theorem w_c2 : (Jvm.Cond.code ({ cls := "java/lang/Record", name := "<init>", desc := "()V" } : Jvm.MethodName) jdk_30_method_1_code (1 : Nat) (Option.none : Option Jvm.ClassFile.FieldType)).before args0 about1 = true := code_word (m := ⟨2, 0⟩) (meth := k2m0) (c := k2c0) (by decide +kernel) rfl rfl rfl (by decide +kernel)
set_option maxRecDepth 65536 in
theorem w_c3 : (Jvm.Cond.code ({ cls := "java/lang/Object", name := "<init>", desc := "()V" } : Jvm.MethodName) object_method_1_code (1 : Nat) (Option.none : Option Jvm.ClassFile.FieldType)).before args0 about1 = true := code_word (m := ⟨0, 0⟩) (meth := k0m0) (c := k0c0) (by decide +kernel) rfl rfl rfl (by decide +kernel)
set_option maxRecDepth 65536 in
theorem w_c4 : (Jvm.Cond.code ({ cls := "com/example/reading_buckets/readingbuckets/SeriesFieldId", name := "<init>", desc := "(III)V" } : Jvm.MethodName) prog_35_method_1_code (4 : Nat) (Option.none : Option Jvm.ClassFile.FieldType)).before args0 about1 = true := code_word (m := ⟨5, 0⟩) (meth := k5m0) (c := k5c0) (by decide +kernel) rfl rfl rfl (by decide +kernel)
set_option maxRecDepth 65536 in
theorem w_c5 : (Jvm.Cond.code ({ cls := "com/example/reading_buckets/readingbuckets/BucketKey", name := "isOf", desc := "(Lcom/example/reading_buckets/readingbuckets/SeriesFieldId;)Z" } : Jvm.MethodName) prog_3_method_3_code (2 : Nat) (Option.some Jvm.ClassFile.FieldType.boolean)).before args0 about1 = true := code_word (m := ⟨4, 1⟩) (meth := k4m1) (c := k4c1) (by decide +kernel) rfl rfl rfl (by decide +kernel)
set_option maxRecDepth 65536 in
theorem w_c6 : (Jvm.Cond.code ({ cls := "com/example/reading_buckets/readingbuckets/SeriesFieldId", name := "series", desc := "()I" } : Jvm.MethodName) prog_35_method_7_code (1 : Nat) (Option.some Jvm.ClassFile.FieldType.int)).before args0 about1 = true := code_word (m := ⟨5, 1⟩) (meth := k5m1) (c := k5c1) (by decide +kernel) rfl rfl rfl (by decide +kernel)
set_option maxRecDepth 65536 in
theorem w_c7 : (Jvm.Cond.code ({ cls := "com/example/reading_buckets/readingbuckets/SeriesFieldId", name := "field", desc := "()I" } : Jvm.MethodName) prog_35_method_8_code (1 : Nat) (Option.some Jvm.ClassFile.FieldType.int)).before args0 about1 = true := code_word (m := ⟨5, 2⟩) (meth := k5m2) (c := k5c2) (by decide +kernel) rfl rfl rfl (by decide +kernel)
def codes1 : List Jvm.Cond := [Jvm.Cond.code x code maxLocals ret, Jvm.Cond.code ({ cls := "com/example/reading_buckets/readingbuckets/BucketKey", name := "<init>", desc := "(IIJ)V" } : Jvm.MethodName) prog_3_method_1_code (5 : Nat) (Option.none : Option Jvm.ClassFile.FieldType), Jvm.Cond.code ({ cls := "java/lang/Record", name := "<init>", desc := "()V" } : Jvm.MethodName) jdk_30_method_1_code (1 : Nat) (Option.none : Option Jvm.ClassFile.FieldType), Jvm.Cond.code ({ cls := "java/lang/Object", name := "<init>", desc := "()V" } : Jvm.MethodName) object_method_1_code (1 : Nat) (Option.none : Option Jvm.ClassFile.FieldType), Jvm.Cond.code ({ cls := "com/example/reading_buckets/readingbuckets/SeriesFieldId", name := "<init>", desc := "(III)V" } : Jvm.MethodName) prog_35_method_1_code (4 : Nat) (Option.none : Option Jvm.ClassFile.FieldType), Jvm.Cond.code ({ cls := "com/example/reading_buckets/readingbuckets/BucketKey", name := "isOf", desc := "(Lcom/example/reading_buckets/readingbuckets/SeriesFieldId;)Z" } : Jvm.MethodName) prog_3_method_3_code (2 : Nat) (Option.some Jvm.ClassFile.FieldType.boolean), Jvm.Cond.code ({ cls := "com/example/reading_buckets/readingbuckets/SeriesFieldId", name := "series", desc := "()I" } : Jvm.MethodName) prog_35_method_7_code (1 : Nat) (Option.some Jvm.ClassFile.FieldType.int), Jvm.Cond.code ({ cls := "com/example/reading_buckets/readingbuckets/SeriesFieldId", name := "field", desc := "()I" } : Jvm.MethodName) prog_35_method_8_code (1 : Nat) (Option.some Jvm.ClassFile.FieldType.int)]
set_option maxRecDepth 65536 in
theorem codes_eq : words1.filter isCode = codes1 := rfl
theorem w_codes : ∀ c ∈ words1.filter isCode, c.before args0 about1 = true := by
  rw [codes_eq]
  intro c hc
  simp only [codes1, List.mem_cons, List.not_mem_nil, or_false] at hc
  rcases hc with rfl | rfl | rfl | rfl | rfl | rfl | rfl | rfl
  · exact w_c0
  · exact w_c1
  · exact w_c2
  · exact w_c3
  · exact w_c4
  · exact w_c5
  · exact w_c6
  · exact w_c7
set_option maxRecDepth 65536 in
theorem w_t1 : (words1.take 24).all (fun c => isCode c || c.before args0 about1) = true := by decide +kernel
set_option maxRecDepth 65536 in
theorem w_t2 : ((words1.drop 24).take 24).all (fun c => isCode c || c.before args0 about1) = true := by decide +kernel
set_option maxRecDepth 65536 in
theorem w_t3 : ((words1.drop 24).drop 24).all (fun c => isCode c || c.before args0 about1) = true := by decide +kernel
theorem w_tables : (allAtoms (Jvm.Cond.code x code maxLocals ret :: tables_1)).before args0 about1 = true := by
  rw [allAtoms_all]
  show words1.all (fun c => c.before args0 about1) = true
  refine all_split ?_ w_codes
  rw [← List.take_append_drop 24 words1, List.all_append, w_t1, ← List.take_append_drop 24 (words1.drop 24), List.all_append, w_t2, w_t3]
  rfl
set_option maxRecDepth 65536 in
theorem w_case : (Jvm.Cond.and given_1 narrow_1).before args0 about1 = true := by decide +kernel
theorem w_applies : (headSpec (Jvm.Cond.code x code maxLocals ret :: tables_1) room_1).applies x e0.platform about1 = true :=
  (Spec.applies_iff w_frames).mpr ⟨w_running, w_runnable, w_alone, w_named, w_hears, w_ripe, w_room, w_tables⟩
theorem atStart : AtStart classFile x code maxLocals ret World_1 tables_1 room_1 Calls_1 rest_1 Pre_1 launch0 p0 e0 about1 theMethod args0 below0 :=
  ⟨lists_1, trivial, launch0.admits_env _ _ _, launch0.least_env, fairChoices_fair.cas, fairChoices_fair.clock, w_frames, w_args, w_heap, w_applies, trivial, trivial, w_case⟩
end start1
theorem witness_1 : WitnessClaimed_1 := ⟨start1.p0, start1.e0, start1.about1, start1.theMethod, start1.args0, start1.below0, start1.atStart⟩
end Jvm.Pilot.@@N@@
