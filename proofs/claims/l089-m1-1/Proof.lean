import JvmDerived
import JvmDerived.Pilot.@@N@@Statement
import JvmDerived.Pilot.@@N@@Code
set_option linter.unusedVariables false
set_option linter.unusedSimpArgs false
namespace Jvm.RoadKit
open Sem ClassFile Op Lib Jvm.Stand Jvm.Free Jvm.LawKit
section New
variable {p : Program} {l : Launch} {e : Env} {R : Room} {s : State} {m : MethodId} {args : Array Value} {below : List Frame} {meth : Method} {c : Code} {T : State} {locs : List Loc} {cells slots : Nat}
theorem retI (X : Stand p l e R s m args below meth c T locs cells slots) (hx : p.tables.exec = Jvm.exec) {pc : Nat} {Ls : Array Slot} {z : Int32} {rest : List Value} (hret : meth.sig.returnType = some .int) (hd : decode c.code pc = .ok (.ireturn, 1)) {fs : List Frame}
    (hl : ∀ (f : JFrame) (acts : List Action), f.method = m → f.locked = none → f.entered = [] → (doReturn e (T.setTop f) acts (some (.int z))).1 = T.setFrames fs) : Steps p.tables e below (T.setTop (mkF m pc Ls (.int z :: rest))) (T.setFrames fs) := by
  have hm' : T.vm.method? m = some meth := X.method'
  have hn : narrow .int (.int z) = .int z := rfl
  show Steps p.tables e below (T.setTop { method := m, pc := pc, locals := Ls, stack := _ :: rest, locked := none }) _
  jvm_step X.here [X.here.top, hx, hd, hm', hret, hn]
  first | (intro acts; rw [hl _ acts rfl rfl rfl]) | rw [hl _ _ rfl rfl rfl]
  exact Steps.refl _
/-- a boolean, byte, char or short that is one already -/
theorem own_retB (X : Stand p l e R s m args below meth c T locs cells slots) (hx : p.tables.exec = Jvm.exec) {pc : Nat} {Ls : Array Slot} {z : Int32} {t : FieldType} {rest : List Value} (hret : meth.sig.returnType = some t) (ht : t = .boolean ∨ t = .byte ∨ t = .char ∨ t = .short) (hz : nar t z = z)
    (hd : decode c.code pc = .ok (.ireturn, 1)) {fs : List Frame} (hl : ∀ (f : JFrame) (acts : List Action), f.method = m → f.locked = none → f.entered = [] → (doReturn e (T.setTop f) acts (some (.int z))).1 = T.setFrames fs) :
    Steps p.tables e below (T.setTop (mkF m pc Ls (.int z :: rest))) (T.setFrames fs) := retN X hx hret ht hd (by rw [hz]; exact hl)
theorem own_retL (X : Stand p l e R s m args below meth c T locs cells slots) (hx : p.tables.exec = Jvm.exec) {pc : Nat} {Ls : Array Slot} {z : Int64} {rest : List Value} (hret : meth.sig.returnType = some .long) (hd : decode c.code pc = .ok (.lreturn, 1)) {fs : List Frame}
    (hl : ∀ (f : JFrame) (acts : List Action), f.method = m → f.locked = none → f.entered = [] → (doReturn e (T.setTop f) acts (some (.long z))).1 = T.setFrames fs) : Steps p.tables e below (T.setTop (mkF m pc Ls (.long z :: rest))) (T.setFrames fs) :=
  retOut X hx hret rfl (Or.inr (Or.inl ⟨rfl, rfl, z, rfl⟩)) hd hl
end New
end Jvm.RoadKit
namespace Jvm.Pilot.@@N@@
open Jvm Jvm.ClassFile Sem Op Lib Jvm.Free Jvm.Stand Jvm.LawKit Jvm.RoadKit Bundle Jvm.Pilot.@@N@@.Jvm.D
theorem own_w {a0 : Array Value} {Z : State} (hw : ∀ d ∈ tables_1, d.before a0 Z = true) (i : Nat) {d : Jvm.Cond} (h : tables_1[i]? = some d) : d.before a0 Z = true := hw _ (List.mem_of_getElem? h)
/-- from A the walk comes to an end that P takes -/
abbrev own_R (tb : Tables) (e : Env) (below : List Frame) (P : State → Outcome → Prop) (A : State) : Prop := ∃ t o, Steps tb e below A t ∧ t.status = .running ∧ Ended t below o ∧ P t o
abbrev own_P (s : State) (Q : Option Value → Heap → List Loc → Prop) (k n : Nat) (t : State) (o : Outcome) : Prop := ∃ v L, o = .returned v ∧ Q v t.heap L ∧ FrameEnd s o t L k n
abbrev own_PW (s : State) (Q : Option Value → Heap → List Loc → Prop) (k n : Nat) (t : State) (o : Outcome) : Prop := ∃ v L, o = .returned v ∧ Q v t.heap L ∧ ReturnedEndW s o t L k n
theorem own_step {tb : Tables} {e : Env} {below : List Frame} {P : State → Outcome → Prop} {A A' : State} (st : ∀ t, Steps tb e below A' t → Steps tb e below A t) (h : own_R tb e below P A') : own_R tb e below P A := by
  obtain ⟨t, o, h1, h2⟩ := h
  exact ⟨t, o, st t h1, h2⟩
theorem own_go {tb : Tables} {e : Env} {below : List Frame} {P : State → Outcome → Prop} {A A' : State} (st : Steps tb e below A A') (h : own_R tb e below P A') : own_R tb e below P A := own_step (fun _ k => st.trans k) h
theorem own_f {tb : Tables} {e : Env} {below : List Frame} {P : State → Outcome → Prop} {A : State} (T : State) (g : JFrame) (st : ∀ t, Steps tb e below (T.setTop g) t → Steps tb e below A t) (h : own_R tb e below P (T.setTop g)) : own_R tb e below P A := own_step st h
theorem own_g {tb : Tables} {e : Env} {below : List Frame} {P : State → Outcome → Prop} {A : State} (T : State) (g : JFrame) (st : Steps tb e below A (T.setTop g)) (h : own_R tb e below P (T.setTop g)) : own_R tb e below P A := own_go st h
theorem own_lsw {tb : Tables} [Ours tb] {e : Env} {below : List Frame} {T target : State} {m : MethodId} {c : Code} {g : JFrame} (h : At T m c below) (hx : tb.exec = Jvm.exec) (hg : g.method = m) {df : Int} {ps : Array (Int × Int)} {len : Nat} {o : Int} {pc0 pc' : Nat} (hpc : g.pc = pc0) (hd : decode c.code g.pc = .ok (.lookupswitch df ps, len)) {i : Int32} {rest : List Value} (hs : g.stack = .int i :: rest)
    (hord : (ps.toList.zip (ps.toList.drop 1)).all (fun (a, next) => a.1 < next.1) = true) (hoff : lookupswitch.offset ps.toList df i.toInt = o) (ho : 0 ≤ (pc0 : Int) + o) (hp : ((pc0 : Int) + o).toNat = pc')
    (hr : Steps tb e below (T.setTop { g with pc := pc', stack := rest }) target) : Steps tb e below (T.setTop g) target := by
  subst hg hpc hp
  jvm_step h [h.top, hx, hd, hs, hoff, ho, lookupswitch.wp_chain]
  exact ⟨by simpa using hord, hr⟩
theorem own_len {p : Program} {l : Launch} {e : Env} {R : Room} {s : State} {m : MethodId} {args : Array Value} {below : List Frame} {meth : Method} {c : Code} {T target : State} {locs : List Loc} {cells slots : Nat} {Z : State} {h : Heap} {a : Addr} {k : ClassId} {ty : FieldType} {z : Int32} {vs : List Value} {dv : Value}
    (X : Stand p l e R s m args below meth c T locs cells slots) (hx : p.tables.exec = Jvm.exec) (hZ : Z.Warmed39 s.vm) (eT : T.heap = h) (F : Arv Z h a k ty z vs dv) {g : JFrame} (hg : g.method = m) {rest : List Value} (hs : g.stack = .ref a :: rest) (hd : decode c.code g.pc = .ok (.arraylength, 1))
    (hr : Steps p.tables e below (T.setTop { g with pc := g.pc + 1, stack := .int z :: rest }) target) : Steps p.tables e below (T.setTop g) target := by
  obtain ⟨cl, A, -, S, q, -⟩ := F
  exact X.arraylength hx (by rw [eT]; exact A.1) (State.isArrayOf_alike hZ.alike A.2.1) hg hs hd _ (by rw [len_of S q]; exact hr)
theorem own_arvnew {Z : State} {h : Heap} {a : Addr} {k : ClassId} {ty : FieldType} {z : Int32} (n : Nat) (A : Arr Z h a (newA k ty z) ty) (q : ¬ z < 0) : Arv Z h a k ty z (List.replicate n (defaultValue ty)) (defaultValue ty) := (Arv.new A q).pad fun i => pad_rep [] _ n i
theorem own_narB (x : Int32) : nar .byte x.toInt8.toInt32 = x.toInt8.toInt32 := by show x.toInt8.toInt32.toInt8.toInt32 = _; simp
theorem own_narC (x : Int32) : nar .char x.toUInt32.toUInt16.toUInt32.toInt32 = x.toUInt32.toUInt16.toUInt32.toInt32 := by show x.toUInt32.toUInt16.toUInt32.toInt32.toUInt32.toUInt16.toUInt32.toInt32 = _; simp only [UInt32.toUInt32_toInt32, UInt16.toUInt16_toUInt32]
theorem own_fitB (x : Int32) : fits .byte (.int (nar .byte x)) = true := fits_nar_byte x
theorem own_nb {z : Int32} (h : z = 0 ∨ z = 1) : narrow .boolean (.int z) = .int z := by rcases h with rfl | rfl <;> rfl
theorem own_fb {z : Int32} (h : z = 0 ∨ z = 1) : fits .boolean (.int z) = true := by rcases h with rfl | rfl <;> rfl
theorem own_nar {z : Int32} (h : z = 0 ∨ z = 1) : nar .boolean z = z := by rcases h with rfl | rfl <;> rfl
def own_b (q : Prop) [Decidable q] : Int32 := if q then 1 else 0
def own_A (Z : State) (h : Heap) (a : Addr) (n w : Int32) : Prop := ∃ c : Cell, Arr Z h a c .byte ∧ c.slots.size = n.toNatClampNeg ∧ c.slots[(0 : Int32).toNatClampNeg]? = some (.int w)
theorem own_A.lt {Z : State} {h : Heap} {a : Addr} {n w : Int32} (F : own_A Z h a n w) : a < h.size := by obtain ⟨c, A, -⟩ := F; exact A.lt
theorem own_A.ext {Z : State} {h h' : Heap} {a : Addr} {n w : Int32} (F : own_A Z h a n w) (E : Ext h h') : own_A Z h' a n w := by obtain ⟨c, A, r⟩ := F; exact ⟨c, A.ext E, r⟩
theorem own_A.other {Z : State} {h h' : Heap} {a b : Addr} {n w : Int32} {sl : Nat} {v : Value} (F : own_A Z h b n w) (W : Wr h h' a sl v) (q : b ≠ a) : own_A Z h' b n w := by obtain ⟨c, A, r⟩ := F; exact ⟨c, A.other W q, r⟩
theorem own_A.keep {Z : State} {h h' : Heap} {a : Addr} {n w : Int32} {ws : List Addr} (F : own_A Z h a n w) (K : Keep h h' ws) (q : a ∉ ws) : own_A Z h' a n w := by obtain ⟨c, A, r⟩ := F; exact ⟨c, ⟨K.2.1 a c A.1 q, A.2⟩, r⟩
theorem own_A.set {Z : State} {h h' : Heap} {a : Addr} {n w j : Int32} {v : Value} {c : Cell} (A : Arr Z h a c .byte) (S : c.slots.size = n.toNatClampNeg) (F : c.slots[(0 : Int32).toNatClampNeg]? = some (.int w)) (W : Wr h h' a j.toNatClampNeg v) (q : ¬ j < 0 ∧ ¬ (0 : Int32) = j) : own_A Z h' a n w :=
  ⟨_, A.same W, by rw [sz_set]; exact S, by rw [get_miss q.1 (by decide) q.2]; exact F⟩
theorem own_A.set0 {Z : State} {h h' : Heap} {a : Addr} {n : Int32} {w : Int32} {c : Cell} (A : Arr Z h a c .byte) (S : c.slots.size = n.toNatClampNeg) (q : ¬ ((0 : Int32) < 0 ∨ c.slots.size ≤ (0 : Int32).toNatClampNeg)) (W : Wr h h' a (0 : Int32).toNatClampNeg (.int w)) : own_A Z h' a n w :=
  ⟨_, A.same W, by rw [sz_set]; exact S, get_hit q rfl⟩
theorem own_A.new {Z : State} {h : Heap} {a : Addr} {n : Int32} {cA : ClassId} (A : Arr Z h a (newA cA .byte n) .byte) (q : (0 : Int32) < n) : own_A Z h a n 0 :=
  ⟨_, A, sz_new _ _ _, by
    rw [get_new (k := (0 : Int32)) (by rw [← sz_new cA .byte n]; exact inb_of (sz_new _ _ _) ⟨by decide, q⟩)] <;> rfl⟩
theorem own_n (x : Int32) : ((x &&& (3 : Int32)) + (1 : Int32)) = 1 ∨ ((x &&& (3 : Int32)) + (1 : Int32)) = 2 ∨ ((x &&& (3 : Int32)) + (1 : Int32)) = 3 ∨ ((x &&& (3 : Int32)) + (1 : Int32)) = 4 := by
  have h := c_mask x 3 2 (by decide) (by decide)
  have e : ((x &&& (3 : Int32)) + (1 : Int32)).toInt = (x &&& (3 : Int32)).toInt + (1 : Int32).toInt := XT.add32 ⟨by rw [h]; show _ ≤ _ + 1; omega, by rw [h]; show _ + 1 < _; omega⟩
  have e1 : (1 : Int32).toInt = 1 := rfl
  have e2 : (2 : Int32).toInt = 2 := rfl
  have e3 : (3 : Int32).toInt = 3 := rfl
  have e4 : (4 : Int32).toInt = 4 := rfl
  simp only [← Int32.toInt_inj]
  rw [e, h, e1, e2, e3, e4]
  omega
theorem own_n0 {n : Int32} (h : n = 1 ∨ n = 2 ∨ n = 3 ∨ n = 4) : (0 : Int32) < n := by rcases h with rfl | rfl | rfl | rfl <;> decide
theorem own_nneg {n : Int32} (h : n = 1 ∨ n = 2 ∨ n = 3 ∨ n = 4) : ¬ n < 0 := by rcases h with rfl | rfl | rfl | rfl <;> decide
theorem own_ncap {n : Int32} (h : n = 1 ∨ n = 2 ∨ n = 3 ∨ n = 4) : n.toNatClampNeg ≤ 4 := by rcases h with rfl | rfl | rfl | rfl <;> decide
theorem own_b8 (x : Int32) : nar .byte x.toInt8.toInt32 = x.toInt8.toInt32 := by show x.toInt8.toInt32.toInt8.toInt32 = _; simp
theorem pd__B_Z : parseMethodDescriptor "([B)Z" = some ⟨[(.array .byte)], some .boolean⟩ := by decide +kernel
theorem pd__BII_V : parseMethodDescriptor "([BII)V" = some ⟨[(.array .byte), .int, .int], none⟩ := by decide +kernel
theorem d1_0 : decode method_3_code 0 = .ok (.iload_n 2, 1) := by decide +kernel
theorem d1_1 : decode method_3_code 1 = .ok (.iconst 1, 1) := by decide +kernel
theorem d1_2 : decode method_3_code 2 = .ok (.if_icmp .le 8, 3) := by decide +kernel
theorem d1_5 : decode method_3_code 5 = .ok (.aload_n 0, 1) := by decide +kernel
theorem d1_6 : decode method_3_code 6 = .ok (.iconst 1, 1) := by decide +kernel
theorem d1_7 : decode method_3_code 7 = .ok (.iload_n 1, 1) := by decide +kernel
theorem d1_8 : decode method_3_code 8 = .ok (.i2b, 1) := by decide +kernel
theorem d1_9 : decode method_3_code 9 = .ok (.bastore, 1) := by decide +kernel
theorem d1_10 : decode method_3_code 10 = .ok (.iload_n 2, 1) := by decide +kernel
theorem d1_11 : decode method_3_code 11 = .ok (.iconst 2, 1) := by decide +kernel
theorem d1_12 : decode method_3_code 12 = .ok (.if_icmp .le 11, 3) := by decide +kernel
theorem d1_15 : decode method_3_code 15 = .ok (.aload_n 0, 1) := by decide +kernel
theorem d1_16 : decode method_3_code 16 = .ok (.iconst 2, 1) := by decide +kernel
theorem d1_17 : decode method_3_code 17 = .ok (.iload_n 1, 1) := by decide +kernel
theorem d1_18 : decode method_3_code 18 = .ok (.bipush 8, 2) := by decide +kernel
theorem d1_20 : decode method_3_code 20 = .ok (.ishr, 1) := by decide +kernel
theorem d1_21 : decode method_3_code 21 = .ok (.i2b, 1) := by decide +kernel
theorem d1_22 : decode method_3_code 22 = .ok (.bastore, 1) := by decide +kernel
theorem d1_23 : decode method_3_code 23 = .ok (.iload_n 2, 1) := by decide +kernel
theorem d1_24 : decode method_3_code 24 = .ok (.iconst 3, 1) := by decide +kernel
theorem d1_25 : decode method_3_code 25 = .ok (.if_icmp .le 11, 3) := by decide +kernel
theorem d1_28 : decode method_3_code 28 = .ok (.aload_n 0, 1) := by decide +kernel
theorem d1_29 : decode method_3_code 29 = .ok (.iconst 3, 1) := by decide +kernel
theorem d1_30 : decode method_3_code 30 = .ok (.iload_n 1, 1) := by decide +kernel
theorem d1_31 : decode method_3_code 31 = .ok (.bipush 16, 2) := by decide +kernel
theorem d1_33 : decode method_3_code 33 = .ok (.ishr, 1) := by decide +kernel
theorem d1_34 : decode method_3_code 34 = .ok (.i2b, 1) := by decide +kernel
theorem d1_35 : decode method_3_code 35 = .ok (.bastore, 1) := by decide +kernel
theorem d1_36 : decode method_3_code 36 = .ok (.return_, 1) := by decide +kernel
theorem pn_1 : plainName "com/example/reading_buckets/readingbuckets/BucketIsCompressedPinLaw" = true := by first | (simp [plainName, overriddenIn]; done) | decide +kernel
theorem ef_1 (m : MethodId) (x0 : Addr) (x1 : Int32) (x2 : Int32) : entryFrame m #[(.ref x0), (.int x1), (.int x2)] 3 = mkF m 0 #[.val (.ref x0), .val (.int x1), .val (.int x2)] [] := by first | (simp [entryFrame, mkF, argsToLocals, Value.category]; done) | rfl
def Q1 (Z : State) (a1 : Addr) (p2 : Int32) (p3 : Int32) (w0 : Int32) (h0 : Heap) (n0 : Nat) (v : Option Value) (h : Heap) (L : List Loc) : Prop := v = none ∧ Fr n0 L ∧ Keep h0 h [a1] ∧ own_A Z h a1 p3 w0
set_option maxRecDepth 65536 in
set_option maxHeartbeats 40000000 in
theorem rm1 (l : Launch) (Z : State) (a0 : Array Value) (hw : ∀ d ∈ tables_1, d.before a0 Z = true) (ws : List Jvm.Cond) (a1 : Addr) (p2 : Int32) (p3 : Int32) (w0 : Int32) (h0 : Heap) (n0 : Nat) (Z0 : n0 ≤ h0.size) (F0 : own_A Z h0 a1 p3 w0) (ge_a1 : n0 ≤ a1) :
    MetFree l (⟨"com/example/reading_buckets/readingbuckets/BucketIsCompressedPinLaw", "fill", "([BII)V"⟩ : MethodName) (head1 (Jvm.Cond.code (⟨"com/example/reading_buckets/readingbuckets/BucketIsCompressedPinLaw", "fill", "([BII)V"⟩ : MethodName) method_3_code 3 none :: ws) ({ frames := 0, cells := 0, slots := 0, locals := 0 } : Room)) (fun a U => a = #[(.ref a1), (.int p2), (.int p3)] ∧ Z.Warmed39 U.vm ∧ U.heap = h0) (fun _ _ _ _ _ => True) (fun _ U o U' => ∃ v L, o = .returned v ∧ Q1 Z a1 p2 p3 w0 h0 n0 v U'.heap L ∧ FrameEnd U o U' L ({ frames := 0, cells := 0, slots := 0, locals := 0 } : Room).cells ({ frames := 0, cells := 0, slots := 0, locals := 0 } : Room).slots) := by
  refine MetFree.of_bodySF (plainFor_of_name pn_1) hisR ?_
  intro p e s m args below meth c s₁ Bd hml0 hP hK
  obtain ⟨rfl, hZ, hh⟩ := hP
  have hx := Bd.exec
  have hby := Bd.bytes
  have hml : c.maxLocals = 3 := hml0
  have hown : s.vm.findClass "com/example/reading_buckets/readingbuckets/BucketIsCompressedPinLaw" = some m.cls := findClass_of_methodNamed Bd.named
  have hnm := (name_of_methodNamed Bd.named Bd.method).1
  have X0 : Stand p l e ({ frames := 0, cells := 0, slots := 0, locals := 0 } : Room) s m #[(.ref a1), (.int p2), (.int p3)] below meth c s₁ [] 0 0 := Stand.of_body Bd
  have e0 : s₁.heap = h0 := by rw [← hh, Bd.state]; rfl
  have N0 := Fr.nil n0
  show own_R p.tables e below (own_P s (Q1 Z a1 p2 p3 w0 h0 n0) ({ frames := 0, cells := 0, slots := 0, locals := 0 } : Room).cells ({ frames := 0, cells := 0, slots := 0, locals := 0 } : Room).slots) (s₁.setTop (entryFrame m #[(.ref a1), (.int p2), (.int p3)] 3))
  refine own_f s₁ (mkF m 0 #[.val (.ref a1), .val (.int p2), .val (.int p3)] []) (fun t k => castTop (ef_1 m a1 p2 p3) k) ?_
  refine own_f s₁ (mkF m 1 #[.val (.ref a1), .val (.int p2), .val (.int p3)] [(.int p3)]) (fun t k => XS.iloadN X0.here hx rfl (hb hby d1_0) rfl k) ?_
  refine own_f s₁ (mkF m 2 #[.val (.ref a1), .val (.int p2), .val (.int p3)] [(.int (1 : Int32)), (.int p3)]) (fun t k => XT.iconstV X0.here hx rfl (1 : Int32) (hb hby d1_1) (by decide) k) ?_
  by_cases hc1 : (1 : Int32) < p3
  · skip
    refine own_f s₁ (mkF m 5 #[.val (.ref a1), .val (.int p2), .val (.int p3)] []) (fun t k => XS.icmpNo X0.here hx rfl (hb hby d1_2) rfl (XT.ii_le_f hc1) k) ?_
    refine own_f s₁ (mkF m 6 #[.val (.ref a1), .val (.int p2), .val (.int p3)] [(.ref a1)]) (fun t k => XS.aloadN X0.here hx rfl (hb hby d1_5) rfl rfl k) ?_
    refine own_f s₁ (mkF m 7 #[.val (.ref a1), .val (.int p2), .val (.int p3)] [(.int (1 : Int32)), (.ref a1)]) (fun t k => XT.iconstV X0.here hx rfl (1 : Int32) (hb hby d1_6) (by decide) k) ?_
    refine own_f s₁ (mkF m 8 #[.val (.ref a1), .val (.int p2), .val (.int p3)] [(.int p2), (.int (1 : Int32)), (.ref a1)]) (fun t k => XS.iloadN X0.here hx rfl (hb hby d1_7) rfl k) ?_
    refine own_f s₁ (mkF m 9 #[.val (.ref a1), .val (.int p2), .val (.int p3)] [(.int (p2.toInt8.toInt32)), (.int (1 : Int32)), (.ref a1)]) (fun t k => XS.i2b X0.here hx rfl (hb hby d1_8) rfl k) ?_
    obtain ⟨cl2, Ar2, Sz2, Wz2⟩ := F0
    obtain ⟨T2, h2, X2, e2, W2, st2⟩ := stB X0 hx hZ e0 Ar2 (j := (1 : Int32)) (inb_of Sz2 ⟨by decide, hc1⟩) (g := (mkF m 9 #[.val (.ref a1), .val (.int p2), .val (.int p3)] [(.int (p2.toInt8.toInt32)), (.int (1 : Int32)), (.ref a1)])) rfl rfl (hb hby d1_9)
    have N2 := Fr.snoc X2 N0 ge_a1
    have Zs2 : n0 ≤ h2.size := by rw [W2.size]; exact Z0
    have K2 : Keep h0 h2 [a1] := (Keep.refl h0 [a1]).wr W2 (Or.inl (by simp))
    have F_3 : own_A Z h2 a1 p3 w0 := own_A.set Ar2 Sz2 Wz2 W2 (by decide)
    refine own_f T2 (mkF m 10 #[.val (.ref a1), .val (.int p2), .val (.int p3)] []) st2 ?_
    refine own_f T2 (mkF m 11 #[.val (.ref a1), .val (.int p2), .val (.int p3)] [(.int p3)]) (fun t k => XS.iloadN X2.here hx rfl (hb hby d1_10) rfl k) ?_
    refine own_f T2 (mkF m 12 #[.val (.ref a1), .val (.int p2), .val (.int p3)] [(.int (2 : Int32)), (.int p3)]) (fun t k => XT.iconstV X2.here hx rfl (2 : Int32) (hb hby d1_11) (by decide) k) ?_
    by_cases hc4 : (2 : Int32) < p3
    · skip
      refine own_f T2 (mkF m 15 #[.val (.ref a1), .val (.int p2), .val (.int p3)] []) (fun t k => XS.icmpNo X2.here hx rfl (hb hby d1_12) rfl (XT.ii_le_f hc4) k) ?_
      refine own_f T2 (mkF m 16 #[.val (.ref a1), .val (.int p2), .val (.int p3)] [(.ref a1)]) (fun t k => XS.aloadN X2.here hx rfl (hb hby d1_15) rfl rfl k) ?_
      refine own_f T2 (mkF m 17 #[.val (.ref a1), .val (.int p2), .val (.int p3)] [(.int (2 : Int32)), (.ref a1)]) (fun t k => XT.iconstV X2.here hx rfl (2 : Int32) (hb hby d1_16) (by decide) k) ?_
      refine own_f T2 (mkF m 18 #[.val (.ref a1), .val (.int p2), .val (.int p3)] [(.int p2), (.int (2 : Int32)), (.ref a1)]) (fun t k => XS.iloadN X2.here hx rfl (hb hby d1_17) rfl k) ?_
      refine own_f T2 (mkF m 20 #[.val (.ref a1), .val (.int p2), .val (.int p3)] [(.int (8 : Int32)), (.int p2), (.int (2 : Int32)), (.ref a1)]) (fun t k => XT.bipushV X2.here hx rfl (8 : Int32) (hb hby d1_18) (by decide) k) ?_
      refine own_f T2 (mkF m 21 #[.val (.ref a1), .val (.int p2), .val (.int p3)] [(.int (p2 >>> ((8 : Int32) &&& 31))), (.int (2 : Int32)), (.ref a1)]) (fun t k => XS.ishr X2.here hx rfl (hb hby d1_20) rfl k) ?_
      refine own_f T2 (mkF m 22 #[.val (.ref a1), .val (.int p2), .val (.int p3)] [(.int ((p2 >>> ((8 : Int32) &&& 31)).toInt8.toInt32)), (.int (2 : Int32)), (.ref a1)]) (fun t k => XS.i2b X2.here hx rfl (hb hby d1_21) rfl k) ?_
      obtain ⟨cl5, Ar5, Sz5, Wz5⟩ := F_3
      obtain ⟨T5, h5, X5, e5, W5, st5⟩ := stB X2 hx hZ e2 Ar5 (j := (2 : Int32)) (inb_of Sz5 ⟨by decide, hc4⟩) (g := (mkF m 22 #[.val (.ref a1), .val (.int p2), .val (.int p3)] [(.int ((p2 >>> ((8 : Int32) &&& 31)).toInt8.toInt32)), (.int (2 : Int32)), (.ref a1)])) rfl rfl (hb hby d1_22)
      have N5 := Fr.snoc X5 N2 ge_a1
      have Zs5 : n0 ≤ h5.size := by rw [W5.size]; exact Zs2
      have K5 : Keep h0 h5 [a1] := K2.wr W5 (Or.inl (by simp))
      have F_6 : own_A Z h5 a1 p3 w0 := own_A.set Ar5 Sz5 Wz5 W5 (by decide)
      refine own_f T5 (mkF m 23 #[.val (.ref a1), .val (.int p2), .val (.int p3)] []) st5 ?_
      refine own_f T5 (mkF m 24 #[.val (.ref a1), .val (.int p2), .val (.int p3)] [(.int p3)]) (fun t k => XS.iloadN X5.here hx rfl (hb hby d1_23) rfl k) ?_
      refine own_f T5 (mkF m 25 #[.val (.ref a1), .val (.int p2), .val (.int p3)] [(.int (3 : Int32)), (.int p3)]) (fun t k => XT.iconstV X5.here hx rfl (3 : Int32) (hb hby d1_24) (by decide) k) ?_
      by_cases hc7 : (3 : Int32) < p3
      · skip
        refine own_f T5 (mkF m 28 #[.val (.ref a1), .val (.int p2), .val (.int p3)] []) (fun t k => XS.icmpNo X5.here hx rfl (hb hby d1_25) rfl (XT.ii_le_f hc7) k) ?_
        refine own_f T5 (mkF m 29 #[.val (.ref a1), .val (.int p2), .val (.int p3)] [(.ref a1)]) (fun t k => XS.aloadN X5.here hx rfl (hb hby d1_28) rfl rfl k) ?_
        refine own_f T5 (mkF m 30 #[.val (.ref a1), .val (.int p2), .val (.int p3)] [(.int (3 : Int32)), (.ref a1)]) (fun t k => XT.iconstV X5.here hx rfl (3 : Int32) (hb hby d1_29) (by decide) k) ?_
        refine own_f T5 (mkF m 31 #[.val (.ref a1), .val (.int p2), .val (.int p3)] [(.int p2), (.int (3 : Int32)), (.ref a1)]) (fun t k => XS.iloadN X5.here hx rfl (hb hby d1_30) rfl k) ?_
        refine own_f T5 (mkF m 33 #[.val (.ref a1), .val (.int p2), .val (.int p3)] [(.int (16 : Int32)), (.int p2), (.int (3 : Int32)), (.ref a1)]) (fun t k => XT.bipushV X5.here hx rfl (16 : Int32) (hb hby d1_31) (by decide) k) ?_
        refine own_f T5 (mkF m 34 #[.val (.ref a1), .val (.int p2), .val (.int p3)] [(.int (p2 >>> ((16 : Int32) &&& 31))), (.int (3 : Int32)), (.ref a1)]) (fun t k => XS.ishr X5.here hx rfl (hb hby d1_33) rfl k) ?_
        refine own_f T5 (mkF m 35 #[.val (.ref a1), .val (.int p2), .val (.int p3)] [(.int ((p2 >>> ((16 : Int32) &&& 31)).toInt8.toInt32)), (.int (3 : Int32)), (.ref a1)]) (fun t k => XS.i2b X5.here hx rfl (hb hby d1_34) rfl k) ?_
        obtain ⟨cl8, Ar8, Sz8, Wz8⟩ := F_6
        obtain ⟨T8, h8, X8, e8, W8, st8⟩ := stB X5 hx hZ e5 Ar8 (j := (3 : Int32)) (inb_of Sz8 ⟨by decide, hc7⟩) (g := (mkF m 35 #[.val (.ref a1), .val (.int p2), .val (.int p3)] [(.int ((p2 >>> ((16 : Int32) &&& 31)).toInt8.toInt32)), (.int (3 : Int32)), (.ref a1)])) rfl rfl (hb hby d1_35)
        have N8 := Fr.snoc X8 N5 ge_a1
        have Zs8 : n0 ≤ h8.size := by rw [W8.size]; exact Zs5
        have K8 : Keep h0 h8 [a1] := K5.wr W8 (Or.inl (by simp))
        have F_9 : own_A Z h8 a1 p3 w0 := own_A.set Ar8 Sz8 Wz8 W8 (by decide)
        refine own_f T8 (mkF m 36 #[.val (.ref a1), .val (.int p2), .val (.int p3)] []) st8 ?_
        obtain ⟨fs, hr, hrun, hended, hW, hsame⟩ := X8.leave (v := none) (fun _ => rfl)
        refine ⟨_, _, X8.returnOut hx Bd.returns (hb hby d1_36) hr, hrun, hended, _, _, rfl, ?_, ⟨_, rfl⟩, hW, hsame.mono (by decide) (by decide)⟩
        show Q1 Z a1 p2 p3 w0 h0 n0 _ T8.heap _
        rw [e8]
        exact ⟨rfl, N8, K8, F_9⟩
      · skip
        refine own_f T5 (mkF m 36 #[.val (.ref a1), .val (.int p2), .val (.int p3)] []) (fun t k => XS.icmpYes X5.here hx rfl (pc0 := 25) (pc' := 36) rfl (hb hby d1_25) rfl (XT.ii_le_t hc7) (by decide) (by decide) k) ?_
        obtain ⟨fs, hr, hrun, hended, hW, hsame⟩ := X5.leave (v := none) (fun _ => rfl)
        refine ⟨_, _, X5.returnOut hx Bd.returns (hb hby d1_36) hr, hrun, hended, _, _, rfl, ?_, ⟨_, rfl⟩, hW, hsame.mono (by decide) (by decide)⟩
        show Q1 Z a1 p2 p3 w0 h0 n0 _ T5.heap _
        rw [e5]
        exact ⟨rfl, N5, K5, F_6⟩
    · skip
      refine own_f T2 (mkF m 23 #[.val (.ref a1), .val (.int p2), .val (.int p3)] []) (fun t k => XS.icmpYes X2.here hx rfl (pc0 := 12) (pc' := 23) rfl (hb hby d1_12) rfl (XT.ii_le_t hc4) (by decide) (by decide) k) ?_
      refine own_f T2 (mkF m 24 #[.val (.ref a1), .val (.int p2), .val (.int p3)] [(.int p3)]) (fun t k => XS.iloadN X2.here hx rfl (hb hby d1_23) rfl k) ?_
      refine own_f T2 (mkF m 25 #[.val (.ref a1), .val (.int p2), .val (.int p3)] [(.int (3 : Int32)), (.int p3)]) (fun t k => XT.iconstV X2.here hx rfl (3 : Int32) (hb hby d1_24) (by decide) k) ?_
      by_cases hc10 : (3 : Int32) < p3
      · skip
        refine own_f T2 (mkF m 28 #[.val (.ref a1), .val (.int p2), .val (.int p3)] []) (fun t k => XS.icmpNo X2.here hx rfl (hb hby d1_25) rfl (XT.ii_le_f hc10) k) ?_
        refine own_f T2 (mkF m 29 #[.val (.ref a1), .val (.int p2), .val (.int p3)] [(.ref a1)]) (fun t k => XS.aloadN X2.here hx rfl (hb hby d1_28) rfl rfl k) ?_
        refine own_f T2 (mkF m 30 #[.val (.ref a1), .val (.int p2), .val (.int p3)] [(.int (3 : Int32)), (.ref a1)]) (fun t k => XT.iconstV X2.here hx rfl (3 : Int32) (hb hby d1_29) (by decide) k) ?_
        refine own_f T2 (mkF m 31 #[.val (.ref a1), .val (.int p2), .val (.int p3)] [(.int p2), (.int (3 : Int32)), (.ref a1)]) (fun t k => XS.iloadN X2.here hx rfl (hb hby d1_30) rfl k) ?_
        refine own_f T2 (mkF m 33 #[.val (.ref a1), .val (.int p2), .val (.int p3)] [(.int (16 : Int32)), (.int p2), (.int (3 : Int32)), (.ref a1)]) (fun t k => XT.bipushV X2.here hx rfl (16 : Int32) (hb hby d1_31) (by decide) k) ?_
        refine own_f T2 (mkF m 34 #[.val (.ref a1), .val (.int p2), .val (.int p3)] [(.int (p2 >>> ((16 : Int32) &&& 31))), (.int (3 : Int32)), (.ref a1)]) (fun t k => XS.ishr X2.here hx rfl (hb hby d1_33) rfl k) ?_
        refine own_f T2 (mkF m 35 #[.val (.ref a1), .val (.int p2), .val (.int p3)] [(.int ((p2 >>> ((16 : Int32) &&& 31)).toInt8.toInt32)), (.int (3 : Int32)), (.ref a1)]) (fun t k => XS.i2b X2.here hx rfl (hb hby d1_34) rfl k) ?_
        obtain ⟨cl11, Ar11, Sz11, Wz11⟩ := F_3
        obtain ⟨T11, h11, X11, e11, W11, st11⟩ := stB X2 hx hZ e2 Ar11 (j := (3 : Int32)) (inb_of Sz11 ⟨by decide, hc10⟩) (g := (mkF m 35 #[.val (.ref a1), .val (.int p2), .val (.int p3)] [(.int ((p2 >>> ((16 : Int32) &&& 31)).toInt8.toInt32)), (.int (3 : Int32)), (.ref a1)])) rfl rfl (hb hby d1_35)
        have N11 := Fr.snoc X11 N2 ge_a1
        have Zs11 : n0 ≤ h11.size := by rw [W11.size]; exact Zs2
        have K11 : Keep h0 h11 [a1] := K2.wr W11 (Or.inl (by simp))
        have F_12 : own_A Z h11 a1 p3 w0 := own_A.set Ar11 Sz11 Wz11 W11 (by decide)
        refine own_f T11 (mkF m 36 #[.val (.ref a1), .val (.int p2), .val (.int p3)] []) st11 ?_
        obtain ⟨fs, hr, hrun, hended, hW, hsame⟩ := X11.leave (v := none) (fun _ => rfl)
        refine ⟨_, _, X11.returnOut hx Bd.returns (hb hby d1_36) hr, hrun, hended, _, _, rfl, ?_, ⟨_, rfl⟩, hW, hsame.mono (by decide) (by decide)⟩
        show Q1 Z a1 p2 p3 w0 h0 n0 _ T11.heap _
        rw [e11]
        exact ⟨rfl, N11, K11, F_12⟩
      · skip
        refine own_f T2 (mkF m 36 #[.val (.ref a1), .val (.int p2), .val (.int p3)] []) (fun t k => XS.icmpYes X2.here hx rfl (pc0 := 25) (pc' := 36) rfl (hb hby d1_25) rfl (XT.ii_le_t hc10) (by decide) (by decide) k) ?_
        obtain ⟨fs, hr, hrun, hended, hW, hsame⟩ := X2.leave (v := none) (fun _ => rfl)
        refine ⟨_, _, X2.returnOut hx Bd.returns (hb hby d1_36) hr, hrun, hended, _, _, rfl, ?_, ⟨_, rfl⟩, hW, hsame.mono (by decide) (by decide)⟩
        show Q1 Z a1 p2 p3 w0 h0 n0 _ T2.heap _
        rw [e2]
        exact ⟨rfl, N2, K2, F_3⟩
  · skip
    refine own_f s₁ (mkF m 10 #[.val (.ref a1), .val (.int p2), .val (.int p3)] []) (fun t k => XS.icmpYes X0.here hx rfl (pc0 := 2) (pc' := 10) rfl (hb hby d1_2) rfl (XT.ii_le_t hc1) (by decide) (by decide) k) ?_
    refine own_f s₁ (mkF m 11 #[.val (.ref a1), .val (.int p2), .val (.int p3)] [(.int p3)]) (fun t k => XS.iloadN X0.here hx rfl (hb hby d1_10) rfl k) ?_
    refine own_f s₁ (mkF m 12 #[.val (.ref a1), .val (.int p2), .val (.int p3)] [(.int (2 : Int32)), (.int p3)]) (fun t k => XT.iconstV X0.here hx rfl (2 : Int32) (hb hby d1_11) (by decide) k) ?_
    by_cases hc13 : (2 : Int32) < p3
    · skip
      refine own_f s₁ (mkF m 15 #[.val (.ref a1), .val (.int p2), .val (.int p3)] []) (fun t k => XS.icmpNo X0.here hx rfl (hb hby d1_12) rfl (XT.ii_le_f hc13) k) ?_
      refine own_f s₁ (mkF m 16 #[.val (.ref a1), .val (.int p2), .val (.int p3)] [(.ref a1)]) (fun t k => XS.aloadN X0.here hx rfl (hb hby d1_15) rfl rfl k) ?_
      refine own_f s₁ (mkF m 17 #[.val (.ref a1), .val (.int p2), .val (.int p3)] [(.int (2 : Int32)), (.ref a1)]) (fun t k => XT.iconstV X0.here hx rfl (2 : Int32) (hb hby d1_16) (by decide) k) ?_
      refine own_f s₁ (mkF m 18 #[.val (.ref a1), .val (.int p2), .val (.int p3)] [(.int p2), (.int (2 : Int32)), (.ref a1)]) (fun t k => XS.iloadN X0.here hx rfl (hb hby d1_17) rfl k) ?_
      refine own_f s₁ (mkF m 20 #[.val (.ref a1), .val (.int p2), .val (.int p3)] [(.int (8 : Int32)), (.int p2), (.int (2 : Int32)), (.ref a1)]) (fun t k => XT.bipushV X0.here hx rfl (8 : Int32) (hb hby d1_18) (by decide) k) ?_
      refine own_f s₁ (mkF m 21 #[.val (.ref a1), .val (.int p2), .val (.int p3)] [(.int (p2 >>> ((8 : Int32) &&& 31))), (.int (2 : Int32)), (.ref a1)]) (fun t k => XS.ishr X0.here hx rfl (hb hby d1_20) rfl k) ?_
      refine own_f s₁ (mkF m 22 #[.val (.ref a1), .val (.int p2), .val (.int p3)] [(.int ((p2 >>> ((8 : Int32) &&& 31)).toInt8.toInt32)), (.int (2 : Int32)), (.ref a1)]) (fun t k => XS.i2b X0.here hx rfl (hb hby d1_21) rfl k) ?_
      obtain ⟨cl14, Ar14, Sz14, Wz14⟩ := F0
      obtain ⟨T14, h14, X14, e14, W14, st14⟩ := stB X0 hx hZ e0 Ar14 (j := (2 : Int32)) (inb_of Sz14 ⟨by decide, hc13⟩) (g := (mkF m 22 #[.val (.ref a1), .val (.int p2), .val (.int p3)] [(.int ((p2 >>> ((8 : Int32) &&& 31)).toInt8.toInt32)), (.int (2 : Int32)), (.ref a1)])) rfl rfl (hb hby d1_22)
      have N14 := Fr.snoc X14 N0 ge_a1
      have Zs14 : n0 ≤ h14.size := by rw [W14.size]; exact Z0
      have K14 : Keep h0 h14 [a1] := (Keep.refl h0 [a1]).wr W14 (Or.inl (by simp))
      have F_15 : own_A Z h14 a1 p3 w0 := own_A.set Ar14 Sz14 Wz14 W14 (by decide)
      refine own_f T14 (mkF m 23 #[.val (.ref a1), .val (.int p2), .val (.int p3)] []) st14 ?_
      refine own_f T14 (mkF m 24 #[.val (.ref a1), .val (.int p2), .val (.int p3)] [(.int p3)]) (fun t k => XS.iloadN X14.here hx rfl (hb hby d1_23) rfl k) ?_
      refine own_f T14 (mkF m 25 #[.val (.ref a1), .val (.int p2), .val (.int p3)] [(.int (3 : Int32)), (.int p3)]) (fun t k => XT.iconstV X14.here hx rfl (3 : Int32) (hb hby d1_24) (by decide) k) ?_
      by_cases hc16 : (3 : Int32) < p3
      · skip
        refine own_f T14 (mkF m 28 #[.val (.ref a1), .val (.int p2), .val (.int p3)] []) (fun t k => XS.icmpNo X14.here hx rfl (hb hby d1_25) rfl (XT.ii_le_f hc16) k) ?_
        refine own_f T14 (mkF m 29 #[.val (.ref a1), .val (.int p2), .val (.int p3)] [(.ref a1)]) (fun t k => XS.aloadN X14.here hx rfl (hb hby d1_28) rfl rfl k) ?_
        refine own_f T14 (mkF m 30 #[.val (.ref a1), .val (.int p2), .val (.int p3)] [(.int (3 : Int32)), (.ref a1)]) (fun t k => XT.iconstV X14.here hx rfl (3 : Int32) (hb hby d1_29) (by decide) k) ?_
        refine own_f T14 (mkF m 31 #[.val (.ref a1), .val (.int p2), .val (.int p3)] [(.int p2), (.int (3 : Int32)), (.ref a1)]) (fun t k => XS.iloadN X14.here hx rfl (hb hby d1_30) rfl k) ?_
        refine own_f T14 (mkF m 33 #[.val (.ref a1), .val (.int p2), .val (.int p3)] [(.int (16 : Int32)), (.int p2), (.int (3 : Int32)), (.ref a1)]) (fun t k => XT.bipushV X14.here hx rfl (16 : Int32) (hb hby d1_31) (by decide) k) ?_
        refine own_f T14 (mkF m 34 #[.val (.ref a1), .val (.int p2), .val (.int p3)] [(.int (p2 >>> ((16 : Int32) &&& 31))), (.int (3 : Int32)), (.ref a1)]) (fun t k => XS.ishr X14.here hx rfl (hb hby d1_33) rfl k) ?_
        refine own_f T14 (mkF m 35 #[.val (.ref a1), .val (.int p2), .val (.int p3)] [(.int ((p2 >>> ((16 : Int32) &&& 31)).toInt8.toInt32)), (.int (3 : Int32)), (.ref a1)]) (fun t k => XS.i2b X14.here hx rfl (hb hby d1_34) rfl k) ?_
        obtain ⟨cl17, Ar17, Sz17, Wz17⟩ := F_15
        obtain ⟨T17, h17, X17, e17, W17, st17⟩ := stB X14 hx hZ e14 Ar17 (j := (3 : Int32)) (inb_of Sz17 ⟨by decide, hc16⟩) (g := (mkF m 35 #[.val (.ref a1), .val (.int p2), .val (.int p3)] [(.int ((p2 >>> ((16 : Int32) &&& 31)).toInt8.toInt32)), (.int (3 : Int32)), (.ref a1)])) rfl rfl (hb hby d1_35)
        have N17 := Fr.snoc X17 N14 ge_a1
        have Zs17 : n0 ≤ h17.size := by rw [W17.size]; exact Zs14
        have K17 : Keep h0 h17 [a1] := K14.wr W17 (Or.inl (by simp))
        have F_18 : own_A Z h17 a1 p3 w0 := own_A.set Ar17 Sz17 Wz17 W17 (by decide)
        refine own_f T17 (mkF m 36 #[.val (.ref a1), .val (.int p2), .val (.int p3)] []) st17 ?_
        obtain ⟨fs, hr, hrun, hended, hW, hsame⟩ := X17.leave (v := none) (fun _ => rfl)
        refine ⟨_, _, X17.returnOut hx Bd.returns (hb hby d1_36) hr, hrun, hended, _, _, rfl, ?_, ⟨_, rfl⟩, hW, hsame.mono (by decide) (by decide)⟩
        show Q1 Z a1 p2 p3 w0 h0 n0 _ T17.heap _
        rw [e17]
        exact ⟨rfl, N17, K17, F_18⟩
      · skip
        refine own_f T14 (mkF m 36 #[.val (.ref a1), .val (.int p2), .val (.int p3)] []) (fun t k => XS.icmpYes X14.here hx rfl (pc0 := 25) (pc' := 36) rfl (hb hby d1_25) rfl (XT.ii_le_t hc16) (by decide) (by decide) k) ?_
        obtain ⟨fs, hr, hrun, hended, hW, hsame⟩ := X14.leave (v := none) (fun _ => rfl)
        refine ⟨_, _, X14.returnOut hx Bd.returns (hb hby d1_36) hr, hrun, hended, _, _, rfl, ?_, ⟨_, rfl⟩, hW, hsame.mono (by decide) (by decide)⟩
        show Q1 Z a1 p2 p3 w0 h0 n0 _ T14.heap _
        rw [e14]
        exact ⟨rfl, N14, K14, F_15⟩
    · skip
      refine own_f s₁ (mkF m 23 #[.val (.ref a1), .val (.int p2), .val (.int p3)] []) (fun t k => XS.icmpYes X0.here hx rfl (pc0 := 12) (pc' := 23) rfl (hb hby d1_12) rfl (XT.ii_le_t hc13) (by decide) (by decide) k) ?_
      refine own_f s₁ (mkF m 24 #[.val (.ref a1), .val (.int p2), .val (.int p3)] [(.int p3)]) (fun t k => XS.iloadN X0.here hx rfl (hb hby d1_23) rfl k) ?_
      refine own_f s₁ (mkF m 25 #[.val (.ref a1), .val (.int p2), .val (.int p3)] [(.int (3 : Int32)), (.int p3)]) (fun t k => XT.iconstV X0.here hx rfl (3 : Int32) (hb hby d1_24) (by decide) k) ?_
      by_cases hc19 : (3 : Int32) < p3
      · skip
        refine own_f s₁ (mkF m 28 #[.val (.ref a1), .val (.int p2), .val (.int p3)] []) (fun t k => XS.icmpNo X0.here hx rfl (hb hby d1_25) rfl (XT.ii_le_f hc19) k) ?_
        refine own_f s₁ (mkF m 29 #[.val (.ref a1), .val (.int p2), .val (.int p3)] [(.ref a1)]) (fun t k => XS.aloadN X0.here hx rfl (hb hby d1_28) rfl rfl k) ?_
        refine own_f s₁ (mkF m 30 #[.val (.ref a1), .val (.int p2), .val (.int p3)] [(.int (3 : Int32)), (.ref a1)]) (fun t k => XT.iconstV X0.here hx rfl (3 : Int32) (hb hby d1_29) (by decide) k) ?_
        refine own_f s₁ (mkF m 31 #[.val (.ref a1), .val (.int p2), .val (.int p3)] [(.int p2), (.int (3 : Int32)), (.ref a1)]) (fun t k => XS.iloadN X0.here hx rfl (hb hby d1_30) rfl k) ?_
        refine own_f s₁ (mkF m 33 #[.val (.ref a1), .val (.int p2), .val (.int p3)] [(.int (16 : Int32)), (.int p2), (.int (3 : Int32)), (.ref a1)]) (fun t k => XT.bipushV X0.here hx rfl (16 : Int32) (hb hby d1_31) (by decide) k) ?_
        refine own_f s₁ (mkF m 34 #[.val (.ref a1), .val (.int p2), .val (.int p3)] [(.int (p2 >>> ((16 : Int32) &&& 31))), (.int (3 : Int32)), (.ref a1)]) (fun t k => XS.ishr X0.here hx rfl (hb hby d1_33) rfl k) ?_
        refine own_f s₁ (mkF m 35 #[.val (.ref a1), .val (.int p2), .val (.int p3)] [(.int ((p2 >>> ((16 : Int32) &&& 31)).toInt8.toInt32)), (.int (3 : Int32)), (.ref a1)]) (fun t k => XS.i2b X0.here hx rfl (hb hby d1_34) rfl k) ?_
        obtain ⟨cl20, Ar20, Sz20, Wz20⟩ := F0
        obtain ⟨T20, h20, X20, e20, W20, st20⟩ := stB X0 hx hZ e0 Ar20 (j := (3 : Int32)) (inb_of Sz20 ⟨by decide, hc19⟩) (g := (mkF m 35 #[.val (.ref a1), .val (.int p2), .val (.int p3)] [(.int ((p2 >>> ((16 : Int32) &&& 31)).toInt8.toInt32)), (.int (3 : Int32)), (.ref a1)])) rfl rfl (hb hby d1_35)
        have N20 := Fr.snoc X20 N0 ge_a1
        have Zs20 : n0 ≤ h20.size := by rw [W20.size]; exact Z0
        have K20 : Keep h0 h20 [a1] := (Keep.refl h0 [a1]).wr W20 (Or.inl (by simp))
        have F_21 : own_A Z h20 a1 p3 w0 := own_A.set Ar20 Sz20 Wz20 W20 (by decide)
        refine own_f T20 (mkF m 36 #[.val (.ref a1), .val (.int p2), .val (.int p3)] []) st20 ?_
        obtain ⟨fs, hr, hrun, hended, hW, hsame⟩ := X20.leave (v := none) (fun _ => rfl)
        refine ⟨_, _, X20.returnOut hx Bd.returns (hb hby d1_36) hr, hrun, hended, _, _, rfl, ?_, ⟨_, rfl⟩, hW, hsame.mono (by decide) (by decide)⟩
        show Q1 Z a1 p2 p3 w0 h0 n0 _ T20.heap _
        rw [e20]
        exact ⟨rfl, N20, K20, F_21⟩
      · skip
        refine own_f s₁ (mkF m 36 #[.val (.ref a1), .val (.int p2), .val (.int p3)] []) (fun t k => XS.icmpYes X0.here hx rfl (pc0 := 25) (pc' := 36) rfl (hb hby d1_25) rfl (XT.ii_le_t hc19) (by decide) (by decide) k) ?_
        obtain ⟨fs, hr, hrun, hended, hW, hsame⟩ := X0.leave (v := none) (fun _ => rfl)
        refine ⟨_, _, X0.returnOut hx Bd.returns (hb hby d1_36) hr, hrun, hended, _, _, rfl, ?_, ⟨_, rfl⟩, hW, hsame.mono (by decide) (by decide)⟩
        show Q1 Z a1 p2 p3 w0 h0 n0 _ s₁.heap _
        rw [e0]
        exact ⟨rfl, N0, (Keep.refl h0 [a1]), F0⟩
theorem d2_0 : decode prog_1_method_19_code 0 = .ok (.aload_n 0, 1) := by decide +kernel
theorem d2_1 : decode prog_1_method_19_code 1 = .ok (.iconst 0, 1) := by decide +kernel
theorem d2_2 : decode prog_1_method_19_code 2 = .ok (.baload, 1) := by decide +kernel
theorem d2_3 : decode prog_1_method_19_code 3 = .ok (.iconst 1, 1) := by decide +kernel
theorem d2_4 : decode prog_1_method_19_code 4 = .ok (.if_icmp .ne 7, 3) := by decide +kernel
theorem d2_7 : decode prog_1_method_19_code 7 = .ok (.iconst 1, 1) := by decide +kernel
theorem d2_8 : decode prog_1_method_19_code 8 = .ok (.goto 4, 3) := by decide +kernel
theorem d2_11 : decode prog_1_method_19_code 11 = .ok (.iconst 0, 1) := by decide +kernel
theorem d2_12 : decode prog_1_method_19_code 12 = .ok (.ireturn, 1) := by decide +kernel
theorem pn_2 : plainName "com/example/reading_buckets/readingbuckets/Bucket" = true := by first | (simp [plainName, overriddenIn]; done) | decide +kernel
theorem ef_2 (m : MethodId) (x0 : Addr) : entryFrame m #[(.ref x0)] 1 = mkF m 0 #[.val (.ref x0)] [] := by first | (simp [entryFrame, mkF, argsToLocals, Value.category]; done) | rfl
def Q2 (Z : State) (a1 : Addr) (n1 : Int32) (w0 : Int32) (h0 : Heap) (n0 : Nat) (v : Option Value) (h : Heap) (L : List Loc) : Prop := v = some (.int (own_b (w0 = 1))) ∧ Fr n0 L ∧ h = h0
set_option maxRecDepth 65536 in
set_option maxHeartbeats 40000000 in
theorem rm2 (l : Launch) (Z : State) (a0 : Array Value) (hw : ∀ d ∈ tables_1, d.before a0 Z = true) (ws : List Jvm.Cond) (a1 : Addr) (n1 : Int32) (w0 : Int32) (h0 : Heap) (n0 : Nat) (Z0 : n0 ≤ h0.size) (F0 : own_A Z h0 a1 n1 w0) (hn1 : (0 : Int32) < n1) :
    MetFree l (⟨"com/example/reading_buckets/readingbuckets/Bucket", "isCompressed", "([B)Z"⟩ : MethodName) (head1 (Jvm.Cond.code (⟨"com/example/reading_buckets/readingbuckets/Bucket", "isCompressed", "([B)Z"⟩ : MethodName) prog_1_method_19_code 1 (some .boolean) :: ws) ({ frames := 0, cells := 0, slots := 0, locals := 0 } : Room)) (fun a U => a = #[(.ref a1)] ∧ Z.Warmed39 U.vm ∧ U.heap = h0) (fun _ _ _ _ _ => True) (fun _ U o U' => ∃ v L, o = .returned v ∧ Q2 Z a1 n1 w0 h0 n0 v U'.heap L ∧ FrameEnd U o U' L ({ frames := 0, cells := 0, slots := 0, locals := 0 } : Room).cells ({ frames := 0, cells := 0, slots := 0, locals := 0 } : Room).slots) := by
  refine MetFree.of_bodySF (plainFor_of_name pn_2) hisR ?_
  intro p e s m args below meth c s₁ Bd hml0 hP hK
  obtain ⟨rfl, hZ, hh⟩ := hP
  have hx := Bd.exec
  have hby := Bd.bytes
  have hml : c.maxLocals = 1 := hml0
  have hown : s.vm.findClass "com/example/reading_buckets/readingbuckets/Bucket" = some m.cls := findClass_of_methodNamed Bd.named
  have hnm := (name_of_methodNamed Bd.named Bd.method).1
  have X0 : Stand p l e ({ frames := 0, cells := 0, slots := 0, locals := 0 } : Room) s m #[(.ref a1)] below meth c s₁ [] 0 0 := Stand.of_body Bd
  have e0 : s₁.heap = h0 := by rw [← hh, Bd.state]; rfl
  have N0 := Fr.nil n0
  show own_R p.tables e below (own_P s (Q2 Z a1 n1 w0 h0 n0) ({ frames := 0, cells := 0, slots := 0, locals := 0 } : Room).cells ({ frames := 0, cells := 0, slots := 0, locals := 0 } : Room).slots) (s₁.setTop (entryFrame m #[(.ref a1)] 1))
  refine own_f s₁ (mkF m 0 #[.val (.ref a1)] []) (fun t k => castTop (ef_2 m a1) k) ?_
  refine own_f s₁ (mkF m 1 #[.val (.ref a1)] [(.ref a1)]) (fun t k => XS.aloadN X0.here hx rfl (hb hby d2_0) rfl rfl k) ?_
  refine own_f s₁ (mkF m 2 #[.val (.ref a1)] [(.int (0 : Int32)), (.ref a1)]) (fun t k => XT.iconstV X0.here hx rfl (0 : Int32) (hb hby d2_1) (by decide) k) ?_
  obtain ⟨cl1, Ar1, Sz1, Wz1⟩ := F0
  refine own_f s₁ (mkF m 3 #[.val (.ref a1)] [(.int w0)]) (fun t k => X0.baloadBytes hx (j := (0 : Int32)) (v := (.int w0)) (by rw [e0]; exact Ar1.1) (State.isArrayOf_alike hZ.alike Ar1.2.1) Ar1.2.2 (inb_of Sz1 ⟨by decide, hn1⟩) Wz1 (g := (mkF m 2 #[.val (.ref a1)] [(.int (0 : Int32)), (.ref a1)])) rfl rfl (hb hby d2_2) t k) ?_
  refine own_f s₁ (mkF m 4 #[.val (.ref a1)] [(.int (1 : Int32)), (.int w0)]) (fun t k => XT.iconstV X0.here hx rfl (1 : Int32) (hb hby d2_3) (by decide) k) ?_
  by_cases hc2 : w0 = (1 : Int32)
  · skip
    refine own_f s₁ (mkF m 7 #[.val (.ref a1)] []) (fun t k => XS.icmpNo X0.here hx rfl (hb hby d2_4) rfl (XT.ii_ne_f hc2) k) ?_
    refine own_f s₁ (mkF m 8 #[.val (.ref a1)] [(.int (1 : Int32))]) (fun t k => XT.iconstV X0.here hx rfl (1 : Int32) (hb hby d2_7) (by decide) k) ?_
    refine own_f s₁ (mkF m 12 #[.val (.ref a1)] [(.int (1 : Int32))]) (fun t k => XS.goto X0.here hx rfl (pc0 := 8) (pc' := 12) rfl (hb hby d2_8) (by decide) (by decide) k) ?_
    obtain ⟨fs, hr, hrun, hended, hW, hsame⟩ := X0.leave (v := some (.int (1 : Int32))) (fun h => by rw [Bd.returns] at h; cases h)
    refine ⟨_, _, retN X0 hx (t := .boolean) Bd.returns (by simp) (hb hby d2_12) hr, hrun, hended, _, _, rfl, ?_, ⟨_, rfl⟩, hW, hsame.mono (by decide) (by decide)⟩
    show Q2 Z a1 n1 w0 h0 n0 _ s₁.heap _
    rw [e0]
    exact ⟨by rw [own_b, if_pos hc2] <;> rfl, N0, rfl⟩
  · skip
    refine own_f s₁ (mkF m 11 #[.val (.ref a1)] []) (fun t k => XS.icmpYes X0.here hx rfl (pc0 := 4) (pc' := 11) rfl (hb hby d2_4) rfl (XT.ii_ne_t hc2) (by decide) (by decide) k) ?_
    refine own_f s₁ (mkF m 12 #[.val (.ref a1)] [(.int (0 : Int32))]) (fun t k => XT.iconstV X0.here hx rfl (0 : Int32) (hb hby d2_11) (by decide) k) ?_
    obtain ⟨fs, hr, hrun, hended, hW, hsame⟩ := X0.leave (v := some (.int (0 : Int32))) (fun h => by rw [Bd.returns] at h; cases h)
    refine ⟨_, _, retN X0 hx (t := .boolean) Bd.returns (by simp) (hb hby d2_12) hr, hrun, hended, _, _, rfl, ?_, ⟨_, rfl⟩, hW, hsame.mono (by decide) (by decide)⟩
    show Q2 Z a1 n1 w0 h0 n0 _ s₁.heap _
    rw [e0]
    exact ⟨by rw [own_b, if_neg hc2] <;> rfl, N0, rfl⟩
theorem pn_0 : plainName "com/example/reading_buckets/readingbuckets/BucketIsCompressedPinLaw" = true := by first | (simp [plainName, overriddenIn]; done) | decide +kernel
theorem ef_0 (m : MethodId) (x0 : Int32) (x1 : Int32) (x2 : Int32) (x3 : Int32) : entryFrame m #[(.int x0), (.int x1), (.int x2), (.int x3)] maxLocals = mkF m 0 #[.val (.int x0), .val (.int x1), .val (.int x2), .val (.int x3), .unset, .unset, .unset, .unset] [] := by first | (simp [entryFrame, mkF, argsToLocals, Value.category, maxLocals]; done) | rfl
def Q0 (Z : State) (p1 : Int32) (p2 : Int32) (p3 : Int32) (p4 : Int32) (h0 : Heap) (n0 : Nat) (v : Option Value) (h : Heap) (L : List Loc) : Prop := v = some (.int 1) ∧ Fr n0 L
set_option maxRecDepth 65536 in
set_option maxHeartbeats 40000000 in
theorem rm0 (l : Launch) (Z : State) (a0 : Array Value) (hw : ∀ d ∈ tables_1, d.before a0 Z = true) (ws : List Jvm.Cond) (p1 : Int32) (p2 : Int32) (p3 : Int32) (p4 : Int32) (h0 : Heap) (n0 : Nat) (Z0 : n0 ≤ h0.size) :
    MetFree l x (head1 (Jvm.Cond.code x code maxLocals ret :: ws) room_1) (fun a U => a = #[(.int p1), (.int p2), (.int p3), (.int p4)] ∧ Z.Warmed39 U.vm ∧ U.heap = h0) (fun _ _ _ _ _ => True) (fun _ U o U' => ∃ v L, o = .returned v ∧ Q0 Z p1 p2 p3 p4 h0 n0 v U'.heap L ∧ FrameEnd U o U' L room_1.cells room_1.slots) := by
  refine MetFree.of_bodySF (plainFor_of_name pn_0) hisR ?_
  intro p e s m args below meth c s₁ Bd hml0 hP hK
  obtain ⟨rfl, hZ, hh⟩ := hP
  have hx := Bd.exec
  have hby := Bd.bytes
  have hml : c.maxLocals = 8 := hml0
  have hown : s.vm.findClass "com/example/reading_buckets/readingbuckets/BucketIsCompressedPinLaw" = some m.cls := findClass_of_methodNamed Bd.named
  have hnm := (name_of_methodNamed Bd.named Bd.method).1
  have X0 : Stand p l e room_1 s m #[(.int p1), (.int p2), (.int p3), (.int p4)] below meth c s₁ [] 0 0 := Stand.of_body Bd
  have e0 : s₁.heap = h0 := by rw [← hh, Bd.state]; rfl
  have N0 := Fr.nil n0
  show own_R p.tables e below (own_P s (Q0 Z p1 p2 p3 p4 h0 n0) room_1.cells room_1.slots) (s₁.setTop (entryFrame m #[(.int p1), (.int p2), (.int p3), (.int p4)] maxLocals))
  refine own_f s₁ (mkF m 0 #[.val (.int p1), .val (.int p2), .val (.int p3), .val (.int p4), .unset, .unset, .unset, .unset] []) (fun t k => castTop (ef_0 m p1 p2 p3 p4) k) ?_
  refine own_f s₁ (mkF m 1 #[.val (.int p1), .val (.int p2), .val (.int p3), .val (.int p4), .unset, .unset, .unset, .unset] [(.int p4)]) (fun t k => XS.iloadN X0.here hx rfl (hb hby at_0) rfl k) ?_
  refine own_f s₁ (mkF m 2 #[.val (.int p1), .val (.int p2), .val (.int p3), .val (.int p4), .unset, .unset, .unset, .unset] [(.int (3 : Int32)), (.int p4)]) (fun t k => XT.iconstV X0.here hx rfl (3 : Int32) (hb hby at_1) (by decide) k) ?_
  refine own_f s₁ (mkF m 3 #[.val (.int p1), .val (.int p2), .val (.int p3), .val (.int p4), .unset, .unset, .unset, .unset] [(.int (p4 &&& (3 : Int32)))]) (fun t k => XS.iand X0.here hx rfl (hb hby at_2) rfl k) ?_
  refine own_f s₁ (mkF m 4 #[.val (.int p1), .val (.int p2), .val (.int p3), .val (.int p4), .unset, .unset, .unset, .unset] [(.int (1 : Int32)), (.int (p4 &&& (3 : Int32)))]) (fun t k => XT.iconstV X0.here hx rfl (1 : Int32) (hb hby at_3) (by decide) k) ?_
  refine own_f s₁ (mkF m 5 #[.val (.int p1), .val (.int p2), .val (.int p3), .val (.int p4), .unset, .unset, .unset, .unset] [(.int ((p4 &&& (3 : Int32)) + (1 : Int32)))]) (fun t k => XS.iadd X0.here hx rfl (hb hby at_4) rfl k) ?_
  refine own_f s₁ (mkF m 7 #[.val (.int p1), .val (.int p2), .val (.int p3), .val (.int p4), .val (.int ((p4 &&& (3 : Int32)) + (1 : Int32))), .unset, .unset, .unset] []) (fun t k => XS.istore X0.here hx rfl (hb hby at_5) rfl (l' := #[.val (.int p1), .val (.int p2), .val (.int p3), .val (.int p4), .val (.int ((p4 &&& (3 : Int32)) + (1 : Int32))), .unset, .unset, .unset]) rfl k) ?_
  obtain ⟨nn, jq⟩ : ∃ z, z = ((p4 &&& (3 : Int32)) + (1 : Int32)) := ⟨_, rfl⟩
  have jn : nn = 1 ∨ nn = 2 ∨ nn = 3 ∨ nn = 4 := by rw [jq]; exact own_n p4
  rw [← jq]
  show own_R p.tables e below (own_P s (Q0 Z p1 p2 p3 p4 h0 n0) room_1.cells room_1.slots) (s₁.setTop (mkF m 7 #[.val (.int p1), .val (.int p2), .val (.int p3), .val (.int p4), .val (.int nn), .unset, .unset, .unset] []))
  refine own_f s₁ (mkF m 9 #[.val (.int p1), .val (.int p2), .val (.int p3), .val (.int p4), .val (.int nn), .unset, .unset, .unset] [(.int nn)]) (fun t k => XS.iload X0.here hx rfl (hb hby at_7) rfl k) ?_
  obtain ⟨T1, h1, k1, X1, e1, E1, A1, st1⟩ := newP X0 hx hZ (own_w hw 0 rfl) e0 (g := (mkF m 9 #[.val (.int p1), .val (.int p2), .val (.int p3), .val (.int p4), .val (.int nn), .unset, .unset, .unset] [(.int nn)])) rfl (hb hby at_9) rfl (own_nneg jn) (cap := 4) (own_ncap jn) (by decide) (by decide) (by decide)
  obtain ⟨b1, g1⟩ : ∃ z, z = h0.size := ⟨_, rfl⟩
  rw [← g1] at A1 st1
  have ge1 : n0 ≤ b1 := by rw [g1]; exact Z0
  have Zs1 : n0 ≤ h1.size := Nat.le_trans Z0 E1.1
  have F_2 : own_A Z h1 b1 nn 0 := own_A.new A1 (own_n0 jn)
  refine own_f T1 (mkF m 11 #[.val (.int p1), .val (.int p2), .val (.int p3), .val (.int p4), .val (.int nn), .unset, .unset, .unset] [(.ref b1)]) st1 ?_
  refine own_f T1 (mkF m 13 #[.val (.int p1), .val (.int p2), .val (.int p3), .val (.int p4), .val (.int nn), .val (.ref b1), .unset, .unset] []) (fun t k => XS.astore X1.here hx rfl (hb hby at_11) rfl rfl (l' := #[.val (.int p1), .val (.int p2), .val (.int p3), .val (.int p4), .val (.int nn), .val (.ref b1), .unset, .unset]) rfl k) ?_
  refine own_f T1 (mkF m 15 #[.val (.int p1), .val (.int p2), .val (.int p3), .val (.int p4), .val (.int nn), .val (.ref b1), .unset, .unset] [(.int nn)]) (fun t k => XS.iload X1.here hx rfl (hb hby at_13) rfl k) ?_
  obtain ⟨T3, h3, k3, X3, e3, E3, A3, st3⟩ := newP X1 hx hZ (own_w hw 0 rfl) e1 (g := (mkF m 15 #[.val (.int p1), .val (.int p2), .val (.int p3), .val (.int p4), .val (.int nn), .val (.ref b1), .unset, .unset] [(.int nn)])) rfl (hb hby at_15) rfl (own_nneg jn) (cap := 4) (own_ncap jn) (by decide) (by decide) (by decide)
  obtain ⟨b3, g3⟩ : ∃ z, z = h1.size := ⟨_, rfl⟩
  rw [← g3] at A3 st3
  have ne3_b1 : b1 ≠ b3 := by rw [g3]; exact Nat.ne_of_lt F_2.lt
  have ge3 : n0 ≤ b3 := by rw [g3]; exact Zs1
  have Zs3 : n0 ≤ h3.size := Nat.le_trans Zs1 E3.1
  have F_4 : own_A Z h3 b1 nn 0 := own_A.ext F_2 E3
  have F_5 : own_A Z h3 b3 nn 0 := own_A.new A3 (own_n0 jn)
  refine own_f T3 (mkF m 17 #[.val (.int p1), .val (.int p2), .val (.int p3), .val (.int p4), .val (.int nn), .val (.ref b1), .unset, .unset] [(.ref b3)]) st3 ?_
  refine own_f T3 (mkF m 19 #[.val (.int p1), .val (.int p2), .val (.int p3), .val (.int p4), .val (.int nn), .val (.ref b1), .val (.ref b3), .unset] []) (fun t k => XS.astore X3.here hx rfl (hb hby at_17) rfl rfl (l' := #[.val (.int p1), .val (.int p2), .val (.int p3), .val (.int p4), .val (.int nn), .val (.ref b1), .val (.ref b3), .unset]) rfl k) ?_
  refine own_f T3 (mkF m 21 #[.val (.int p1), .val (.int p2), .val (.int p3), .val (.int p4), .val (.int nn), .val (.ref b1), .val (.ref b3), .unset] [(.ref b1)]) (fun t k => XS.aload X3.here hx rfl (hb hby at_19) rfl rfl k) ?_
  refine own_f T3 (mkF m 22 #[.val (.int p1), .val (.int p2), .val (.int p3), .val (.int p4), .val (.int nn), .val (.ref b1), .val (.ref b3), .unset] [(.int (0 : Int32)), (.ref b1)]) (fun t k => XT.iconstV X3.here hx rfl (0 : Int32) (hb hby at_21) (by decide) k) ?_
  refine own_f T3 (mkF m 23 #[.val (.int p1), .val (.int p2), .val (.int p3), .val (.int p4), .val (.int nn), .val (.ref b1), .val (.ref b3), .unset] [(.int p1), (.int (0 : Int32)), (.ref b1)]) (fun t k => XS.iloadN X3.here hx rfl (hb hby at_22) rfl k) ?_
  refine own_f T3 (mkF m 24 #[.val (.int p1), .val (.int p2), .val (.int p3), .val (.int p4), .val (.int nn), .val (.ref b1), .val (.ref b3), .unset] [(.int (p1.toInt8.toInt32)), (.int (0 : Int32)), (.ref b1)]) (fun t k => XS.i2b X3.here hx rfl (hb hby at_23) rfl k) ?_
  obtain ⟨cl6, Ar6, Sz6, Wz6⟩ := F_4
  obtain ⟨T6, h6, X6, e6, W6, st6⟩ := stB X3 hx hZ e3 Ar6 (j := (0 : Int32)) (inb_of Sz6 ⟨by decide, own_n0 jn⟩) (g := (mkF m 24 #[.val (.int p1), .val (.int p2), .val (.int p3), .val (.int p4), .val (.int nn), .val (.ref b1), .val (.ref b3), .unset] [(.int (p1.toInt8.toInt32)), (.int (0 : Int32)), (.ref b1)])) rfl rfl (hb hby at_24)
  have N6 := Fr.snoc X6 N0 ge1
  have Zs6 : n0 ≤ h6.size := by rw [W6.size]; exact Zs3
  have F_7 : own_A Z h6 b1 nn (nar .byte (p1.toInt8.toInt32)) := own_A.set0 Ar6 Sz6 (inb_of Sz6 ⟨by decide, own_n0 jn⟩) W6
  have F_8 : own_A Z h6 b3 nn 0 := own_A.other F_5 W6 (Ne.symm ne3_b1)
  refine own_f T6 (mkF m 25 #[.val (.int p1), .val (.int p2), .val (.int p3), .val (.int p4), .val (.int nn), .val (.ref b1), .val (.ref b3), .unset] []) st6 ?_
  refine own_f T6 (mkF m 27 #[.val (.int p1), .val (.int p2), .val (.int p3), .val (.int p4), .val (.int nn), .val (.ref b1), .val (.ref b3), .unset] [(.ref b3)]) (fun t k => XS.aload X6.here hx rfl (hb hby at_25) rfl rfl k) ?_
  refine own_f T6 (mkF m 28 #[.val (.int p1), .val (.int p2), .val (.int p3), .val (.int p4), .val (.int nn), .val (.ref b1), .val (.ref b3), .unset] [(.int (0 : Int32)), (.ref b3)]) (fun t k => XT.iconstV X6.here hx rfl (0 : Int32) (hb hby at_27) (by decide) k) ?_
  refine own_f T6 (mkF m 29 #[.val (.int p1), .val (.int p2), .val (.int p3), .val (.int p4), .val (.int nn), .val (.ref b1), .val (.ref b3), .unset] [(.int p1), (.int (0 : Int32)), (.ref b3)]) (fun t k => XS.iloadN X6.here hx rfl (hb hby at_28) rfl k) ?_
  refine own_f T6 (mkF m 30 #[.val (.int p1), .val (.int p2), .val (.int p3), .val (.int p4), .val (.int nn), .val (.ref b1), .val (.ref b3), .unset] [(.int (p1.toInt8.toInt32)), (.int (0 : Int32)), (.ref b3)]) (fun t k => XS.i2b X6.here hx rfl (hb hby at_29) rfl k) ?_
  obtain ⟨cl9, Ar9, Sz9, Wz9⟩ := F_8
  obtain ⟨T9, h9, X9, e9, W9, st9⟩ := stB X6 hx hZ e6 Ar9 (j := (0 : Int32)) (inb_of Sz9 ⟨by decide, own_n0 jn⟩) (g := (mkF m 30 #[.val (.int p1), .val (.int p2), .val (.int p3), .val (.int p4), .val (.int nn), .val (.ref b1), .val (.ref b3), .unset] [(.int (p1.toInt8.toInt32)), (.int (0 : Int32)), (.ref b3)])) rfl rfl (hb hby at_30)
  have N9 := Fr.snoc X9 N6 ge3
  have Zs9 : n0 ≤ h9.size := by rw [W9.size]; exact Zs6
  have F_10 : own_A Z h9 b1 nn (nar .byte (p1.toInt8.toInt32)) := own_A.other F_7 W9 ne3_b1
  have F_11 : own_A Z h9 b3 nn (nar .byte (p1.toInt8.toInt32)) := own_A.set0 Ar9 Sz9 (inb_of Sz9 ⟨by decide, own_n0 jn⟩) W9
  refine own_f T9 (mkF m 31 #[.val (.int p1), .val (.int p2), .val (.int p3), .val (.int p4), .val (.int nn), .val (.ref b1), .val (.ref b3), .unset] []) st9 ?_
  refine own_f T9 (mkF m 33 #[.val (.int p1), .val (.int p2), .val (.int p3), .val (.int p4), .val (.int nn), .val (.ref b1), .val (.ref b3), .unset] [(.ref b1)]) (fun t k => XS.aload X9.here hx rfl (hb hby at_31) rfl rfl k) ?_
  refine own_f T9 (mkF m 34 #[.val (.int p1), .val (.int p2), .val (.int p3), .val (.int p4), .val (.int nn), .val (.ref b1), .val (.ref b3), .unset] [(.int p2), (.ref b1)]) (fun t k => XS.iloadN X9.here hx rfl (hb hby at_33) rfl k) ?_
  refine own_f T9 (mkF m 36 #[.val (.int p1), .val (.int p2), .val (.int p3), .val (.int p4), .val (.int nn), .val (.ref b1), .val (.ref b3), .unset] [(.int nn), (.int p2), (.ref b1)]) (fun t k => XS.iload X9.here hx rfl (hb hby at_34) rfl k) ?_
  obtain ⟨_, _, ⟨T12, Lq12, kq_12, nq_12⟩, -, X12, ⟨Lc12, hQ12, lq12, yq12, zq12⟩, st12⟩ := Jvm.LawKit.callS X9 hx (y := (⟨"com/example/reading_buckets/readingbuckets/BucketIsCompressedPinLaw", "fill", "([BII)V"⟩ : MethodName)) hown (mvT hZ (own_w hw 1 rfl)) (mvT hZ (own_w hw 2 rfl)) (mvT hZ (own_w hw 3 rfl)) (mvT hZ (own_w hw 4 rfl)) (by decide) (backOf (W := 0) (rm1 l Z a0 hw [] b1 p2 nn _ h9 n0 Zs9 F_10 ge1) hZ (own_w hw 4 rfl) (own_w hw 3 rfl) (by decide) (by decide)) (g := (mkF m 36 #[.val (.int p1), .val (.int p2), .val (.int p3), .val (.int p4), .val (.int nn), .val (.ref b1), .val (.ref b3), .unset] [(.int nn), (.int p2), (.ref b1)])) rfl (by rw [hml]; rfl) (argsL := [(.ref b1), (.int p2), (.int nn)]) (rest := []) (lenOf pd__BII_V rfl) rfl (by show 2 * 0 + _ ≤ _; exact Nat.le_of_eq rfl) (hb hby at_36) (fun _ _ => ⟨rfl, e9, (by decide : 0 + 1 + 1 + 0 ≤ _), (by decide : 0 + 4 + 4 + 0 ≤ _)⟩)
  dsimp only [Pt.U, Pt.locs, Pt.cells, Pt.slots] at X12 lq12 yq12 zq12 st12 hQ12
  subst lq12 yq12 zq12
  obtain ⟨h12, e12⟩ : ∃ z, T12.heap = z := ⟨_, rfl⟩
  rw [e12] at hQ12
  unfold Q1 at hQ12
  obtain ⟨rfl, Nq12, K12, G12⟩ := hQ12
  have N12 := Fr.app N9 Nq12
  have Zs12 : n0 ≤ h12.size := Nat.le_trans Zs9 K12.1
  have F_13 : own_A Z h12 b3 nn (nar .byte (p1.toInt8.toInt32)) := own_A.keep F_11 K12 (ninS (Ne.symm ne3_b1) nin0)
  refine own_f T12 (mkF m 39 #[.val (.int p1), .val (.int p2), .val (.int p3), .val (.int p4), .val (.int nn), .val (.ref b1), .val (.ref b3), .unset] []) st12 ?_
  refine own_f T12 (mkF m 41 #[.val (.int p1), .val (.int p2), .val (.int p3), .val (.int p4), .val (.int nn), .val (.ref b1), .val (.ref b3), .unset] [(.ref b3)]) (fun t k => XS.aload X12.here hx rfl (hb hby at_39) rfl rfl k) ?_
  refine own_f T12 (mkF m 42 #[.val (.int p1), .val (.int p2), .val (.int p3), .val (.int p4), .val (.int nn), .val (.ref b1), .val (.ref b3), .unset] [(.int p3), (.ref b3)]) (fun t k => XS.iloadN X12.here hx rfl (hb hby at_41) rfl k) ?_
  refine own_f T12 (mkF m 44 #[.val (.int p1), .val (.int p2), .val (.int p3), .val (.int p4), .val (.int nn), .val (.ref b1), .val (.ref b3), .unset] [(.int nn), (.int p3), (.ref b3)]) (fun t k => XS.iload X12.here hx rfl (hb hby at_42) rfl k) ?_
  obtain ⟨_, _, ⟨T14, Lq14, kq_14, nq_14⟩, -, X14, ⟨Lc14, hQ14, lq14, yq14, zq14⟩, st14⟩ := Jvm.LawKit.callS X12 hx (y := (⟨"com/example/reading_buckets/readingbuckets/BucketIsCompressedPinLaw", "fill", "([BII)V"⟩ : MethodName)) hown (mvT hZ (own_w hw 1 rfl)) (mvT hZ (own_w hw 2 rfl)) (mvT hZ (own_w hw 3 rfl)) (mvT hZ (own_w hw 4 rfl)) (by decide) (backOf (W := 0) (rm1 l Z a0 hw [] b3 p3 nn _ h12 n0 Zs12 F_13 ge3) hZ (own_w hw 4 rfl) (own_w hw 3 rfl) (by decide) (by decide)) (g := (mkF m 44 #[.val (.int p1), .val (.int p2), .val (.int p3), .val (.int p4), .val (.int nn), .val (.ref b1), .val (.ref b3), .unset] [(.int nn), (.int p3), (.ref b3)])) rfl (by rw [hml]; rfl) (argsL := [(.ref b3), (.int p3), (.int nn)]) (rest := []) (lenOf pd__BII_V rfl) rfl (by show 2 * 0 + _ ≤ _; exact Nat.le_of_eq rfl) (hb hby at_44) (fun _ _ => ⟨rfl, e12, (by decide : 0 + 1 + 1 + 0 + 0 ≤ _), (by decide : 0 + 4 + 4 + 0 + 0 ≤ _)⟩)
  dsimp only [Pt.U, Pt.locs, Pt.cells, Pt.slots] at X14 lq14 yq14 zq14 st14 hQ14
  subst lq14 yq14 zq14
  obtain ⟨h14, e14⟩ : ∃ z, T14.heap = z := ⟨_, rfl⟩
  rw [e14] at hQ14
  unfold Q1 at hQ14
  obtain ⟨rfl, Nq14, K14, G14⟩ := hQ14
  have N14 := Fr.app N12 Nq14
  have Zs14 : n0 ≤ h14.size := Nat.le_trans Zs12 K14.1
  have F_15 : own_A Z h14 b1 nn (nar .byte (p1.toInt8.toInt32)) := own_A.keep G12 K14 (ninS ne3_b1 nin0)
  refine own_f T14 (mkF m 47 #[.val (.int p1), .val (.int p2), .val (.int p3), .val (.int p4), .val (.int nn), .val (.ref b1), .val (.ref b3), .unset] []) st14 ?_
  refine own_f T14 (mkF m 48 #[.val (.int p1), .val (.int p2), .val (.int p3), .val (.int p4), .val (.int nn), .val (.ref b1), .val (.ref b3), .unset] [(.int p1)]) (fun t k => XS.iloadN X14.here hx rfl (hb hby at_47) rfl k) ?_
  refine own_f T14 (mkF m 49 #[.val (.int p1), .val (.int p2), .val (.int p3), .val (.int p4), .val (.int nn), .val (.ref b1), .val (.ref b3), .unset] [(.int (p1.toInt8.toInt32))]) (fun t k => XS.i2b X14.here hx rfl (hb hby at_48) rfl k) ?_
  refine own_f T14 (mkF m 50 #[.val (.int p1), .val (.int p2), .val (.int p3), .val (.int p4), .val (.int nn), .val (.ref b1), .val (.ref b3), .unset] [(.int (1 : Int32)), (.int (p1.toInt8.toInt32))]) (fun t k => XT.iconstV X14.here hx rfl (1 : Int32) (hb hby at_49) (by decide) k) ?_
  have jn16 : ∀ (ze : Int32) (je : ze = own_b (nar .byte (p1.toInt8.toInt32) = 1)), own_R p.tables e below (own_P s (Q0 Z p1 p2 p3 p4 h0 n0) room_1.cells room_1.slots) (T14.setTop (mkF m 58 #[.val (.int p1), .val (.int p2), .val (.int p3), .val (.int p4), .val (.int nn), .val (.ref b1), .val (.ref b3), .unset] [(.int ze)])) := by
    intro ze je
    subst je
    refine own_f T14 (mkF m 60 #[.val (.int p1), .val (.int p2), .val (.int p3), .val (.int p4), .val (.int nn), .val (.ref b1), .val (.ref b3), .val (.int (own_b (nar .byte (p1.toInt8.toInt32) = 1)))] []) (fun t k => XS.istore X14.here hx rfl (hb hby at_58) rfl (l' := #[.val (.int p1), .val (.int p2), .val (.int p3), .val (.int p4), .val (.int nn), .val (.ref b1), .val (.ref b3), .val (.int (own_b (nar .byte (p1.toInt8.toInt32) = 1)))]) rfl k) ?_
    refine own_f T14 (mkF m 62 #[.val (.int p1), .val (.int p2), .val (.int p3), .val (.int p4), .val (.int nn), .val (.ref b1), .val (.ref b3), .val (.int (own_b (nar .byte (p1.toInt8.toInt32) = 1)))] [(.ref b1)]) (fun t k => XS.aload X14.here hx rfl (hb hby at_60) rfl rfl k) ?_
    obtain ⟨_, _, ⟨T17, Lq17, kq_17, nq_17⟩, -, X17, ⟨Lc17, hQ17, lq17, yq17, zq17⟩, st17⟩ := Jvm.LawKit.callS X14 hx (y := (⟨"com/example/reading_buckets/readingbuckets/Bucket", "isCompressed", "([B)Z"⟩ : MethodName)) hown (mvT hZ (own_w hw 5 rfl)) (mvT hZ (own_w hw 6 rfl)) (mvT hZ (own_w hw 7 rfl)) (mvT hZ (own_w hw 8 rfl)) (by decide) (backOf (W := 0) (rm2 l Z a0 hw [] b1 _ (nar .byte (p1.toInt8.toInt32)) h14 n0 Zs14 F_15 (own_n0 jn)) hZ (own_w hw 8 rfl) (own_w hw 7 rfl) (by decide) (by decide)) (g := (mkF m 62 #[.val (.int p1), .val (.int p2), .val (.int p3), .val (.int p4), .val (.int nn), .val (.ref b1), .val (.ref b3), .val (.int (own_b (nar .byte (p1.toInt8.toInt32) = 1)))] [(.ref b1)])) rfl (by rw [hml]; rfl) (argsL := [(.ref b1)]) (rest := []) (lenOf pd__B_Z rfl) rfl (by show 2 * 0 + _ ≤ _; exact Nat.le_of_eq rfl) (hb hby at_62) (fun _ _ => ⟨rfl, e14, (by decide : 0 + 1 + 1 + 0 + 0 + 0 ≤ _), (by decide : 0 + 4 + 4 + 0 + 0 + 0 ≤ _)⟩)
    dsimp only [Pt.U, Pt.locs, Pt.cells, Pt.slots] at X17 lq17 yq17 zq17 st17 hQ17
    subst lq17 yq17 zq17
    obtain ⟨h17, e17⟩ : ∃ z, T17.heap = z := ⟨_, rfl⟩
    rw [e17] at hQ17
    unfold Q2 at hQ17
    obtain ⟨rfl, Nq17, qh17⟩ := hQ17
    have N17 := Fr.app N14 Nq17
    rw [qh17] at e17
    refine own_f T17 (mkF m 65 #[.val (.int p1), .val (.int p2), .val (.int p3), .val (.int p4), .val (.int nn), .val (.ref b1), .val (.ref b3), .val (.int (own_b (nar .byte (p1.toInt8.toInt32) = 1)))] [(.int (own_b ((nar .byte (p1.toInt8.toInt32)) = 1)))]) st17 ?_
    refine own_f T17 (mkF m 67 #[.val (.int p1), .val (.int p2), .val (.int p3), .val (.int p4), .val (.int nn), .val (.ref b1), .val (.ref b3), .val (.int (own_b (nar .byte (p1.toInt8.toInt32) = 1)))] [(.int (own_b (nar .byte (p1.toInt8.toInt32) = 1))), (.int (own_b ((nar .byte (p1.toInt8.toInt32)) = 1)))]) (fun t k => XS.iload X17.here hx rfl (hb hby at_65) rfl k) ?_
    have hc18 : (own_b ((nar .byte (p1.toInt8.toInt32)) = 1)) = (own_b (nar .byte (p1.toInt8.toInt32) = 1)) := rfl
    refine own_f T17 (mkF m 70 #[.val (.int p1), .val (.int p2), .val (.int p3), .val (.int p4), .val (.int nn), .val (.ref b1), .val (.ref b3), .val (.int (own_b (nar .byte (p1.toInt8.toInt32) = 1)))] []) (fun t k => XS.icmpNo X17.here hx rfl (hb hby at_67) rfl (XT.ii_ne_f hc18) k) ?_
    refine own_f T17 (mkF m 72 #[.val (.int p1), .val (.int p2), .val (.int p3), .val (.int p4), .val (.int nn), .val (.ref b1), .val (.ref b3), .val (.int (own_b (nar .byte (p1.toInt8.toInt32) = 1)))] [(.ref b3)]) (fun t k => XS.aload X17.here hx rfl (hb hby at_70) rfl rfl k) ?_
    obtain ⟨_, _, ⟨T19, Lq19, kq_19, nq_19⟩, -, X19, ⟨Lc19, hQ19, lq19, yq19, zq19⟩, st19⟩ := Jvm.LawKit.callS X17 hx (y := (⟨"com/example/reading_buckets/readingbuckets/Bucket", "isCompressed", "([B)Z"⟩ : MethodName)) hown (mvT hZ (own_w hw 5 rfl)) (mvT hZ (own_w hw 6 rfl)) (mvT hZ (own_w hw 7 rfl)) (mvT hZ (own_w hw 8 rfl)) (by decide) (backOf (W := 0) (rm2 l Z a0 hw [] b3 _ (nar .byte (p1.toInt8.toInt32)) h14 n0 Zs14 G14 (own_n0 jn)) hZ (own_w hw 8 rfl) (own_w hw 7 rfl) (by decide) (by decide)) (g := (mkF m 72 #[.val (.int p1), .val (.int p2), .val (.int p3), .val (.int p4), .val (.int nn), .val (.ref b1), .val (.ref b3), .val (.int (own_b (nar .byte (p1.toInt8.toInt32) = 1)))] [(.ref b3)])) rfl (by rw [hml]; rfl) (argsL := [(.ref b3)]) (rest := []) (lenOf pd__B_Z rfl) rfl (by show 2 * 0 + _ ≤ _; exact Nat.le_of_eq rfl) (hb hby at_72) (fun _ _ => ⟨rfl, e17, (by decide : 0 + 1 + 1 + 0 + 0 + 0 + 0 ≤ _), (by decide : 0 + 4 + 4 + 0 + 0 + 0 + 0 ≤ _)⟩)
    dsimp only [Pt.U, Pt.locs, Pt.cells, Pt.slots] at X19 lq19 yq19 zq19 st19 hQ19
    subst lq19 yq19 zq19
    obtain ⟨h19, e19⟩ : ∃ z, T19.heap = z := ⟨_, rfl⟩
    rw [e19] at hQ19
    unfold Q2 at hQ19
    obtain ⟨rfl, Nq19, qh19⟩ := hQ19
    have N19 := Fr.app N17 Nq19
    rw [qh19] at e19
    refine own_f T19 (mkF m 75 #[.val (.int p1), .val (.int p2), .val (.int p3), .val (.int p4), .val (.int nn), .val (.ref b1), .val (.ref b3), .val (.int (own_b (nar .byte (p1.toInt8.toInt32) = 1)))] [(.int (own_b ((nar .byte (p1.toInt8.toInt32)) = 1)))]) st19 ?_
    refine own_f T19 (mkF m 77 #[.val (.int p1), .val (.int p2), .val (.int p3), .val (.int p4), .val (.int nn), .val (.ref b1), .val (.ref b3), .val (.int (own_b (nar .byte (p1.toInt8.toInt32) = 1)))] [(.int (own_b (nar .byte (p1.toInt8.toInt32) = 1))), (.int (own_b ((nar .byte (p1.toInt8.toInt32)) = 1)))]) (fun t k => XS.iload X19.here hx rfl (hb hby at_75) rfl k) ?_
    refine own_f T19 (mkF m 80 #[.val (.int p1), .val (.int p2), .val (.int p3), .val (.int p4), .val (.int nn), .val (.ref b1), .val (.ref b3), .val (.int (own_b (nar .byte (p1.toInt8.toInt32) = 1)))] []) (fun t k => XS.icmpNo X19.here hx rfl (hb hby at_77) rfl (XT.ii_ne_f hc18) k) ?_
    refine own_f T19 (mkF m 81 #[.val (.int p1), .val (.int p2), .val (.int p3), .val (.int p4), .val (.int nn), .val (.ref b1), .val (.ref b3), .val (.int (own_b (nar .byte (p1.toInt8.toInt32) = 1)))] [(.int (1 : Int32))]) (fun t k => XT.iconstV X19.here hx rfl (1 : Int32) (hb hby at_80) (by decide) k) ?_
    refine own_f T19 (mkF m 85 #[.val (.int p1), .val (.int p2), .val (.int p3), .val (.int p4), .val (.int nn), .val (.ref b1), .val (.ref b3), .val (.int (own_b (nar .byte (p1.toInt8.toInt32) = 1)))] [(.int (1 : Int32))]) (fun t k => XS.goto X19.here hx rfl (pc0 := 81) (pc' := 85) rfl (hb hby at_81) (by decide) (by decide) k) ?_
    obtain ⟨fs, hr, hrun, hended, hW, hsame⟩ := X19.leave (v := some (.int (1 : Int32))) (fun h => by rw [Bd.returns] at h; cases h)
    refine ⟨_, _, retN X19 hx (t := .boolean) Bd.returns (by simp) (hb hby at_85) hr, hrun, hended, _, _, rfl, ?_, ⟨_, rfl⟩, hW, hsame.mono (by decide) (by decide)⟩
    show Q0 Z p1 p2 p3 p4 h0 n0 _ T19.heap _
    rw [e19]
    exact ⟨rfl, N19⟩
  by_cases hc20 : (p1.toInt8.toInt32) = (1 : Int32)
  · skip
    refine own_f T14 (mkF m 53 #[.val (.int p1), .val (.int p2), .val (.int p3), .val (.int p4), .val (.int nn), .val (.ref b1), .val (.ref b3), .unset] []) (fun t k => XS.icmpNo X14.here hx rfl (hb hby at_50) rfl (XT.ii_ne_f hc20) k) ?_
    refine own_f T14 (mkF m 54 #[.val (.int p1), .val (.int p2), .val (.int p3), .val (.int p4), .val (.int nn), .val (.ref b1), .val (.ref b3), .unset] [(.int (1 : Int32))]) (fun t k => XT.iconstV X14.here hx rfl (1 : Int32) (hb hby at_53) (by decide) k) ?_
    refine own_f T14 (mkF m 58 #[.val (.int p1), .val (.int p2), .val (.int p3), .val (.int p4), .val (.int nn), .val (.ref b1), .val (.ref b3), .unset] [(.int (1 : Int32))]) (fun t k => XS.goto X14.here hx rfl (pc0 := 54) (pc' := 58) rfl (hb hby at_54) (by decide) (by decide) k) ?_
    exact jn16 (1 : Int32) (by rw [own_b, if_pos (by rw [own_b8]; exact hc20)] <;> rfl)
  · skip
    refine own_f T14 (mkF m 57 #[.val (.int p1), .val (.int p2), .val (.int p3), .val (.int p4), .val (.int nn), .val (.ref b1), .val (.ref b3), .unset] []) (fun t k => XS.icmpYes X14.here hx rfl (pc0 := 50) (pc' := 57) rfl (hb hby at_50) rfl (XT.ii_ne_t hc20) (by decide) (by decide) k) ?_
    refine own_f T14 (mkF m 58 #[.val (.int p1), .val (.int p2), .val (.int p3), .val (.int p4), .val (.int nn), .val (.ref b1), .val (.ref b3), .unset] [(.int (0 : Int32))]) (fun t k => XT.iconstV X14.here hx rfl (0 : Int32) (hb hby at_57) (by decide) k) ?_
    exact jn16 (0 : Int32) (by rw [own_b, if_neg (by rw [own_b8]; exact hc20)] <;> rfl)
set_option maxRecDepth 65536 in
set_option maxHeartbeats 40000000 in
theorem comes_1 {Post : Tables → Env → Array Value → State → Outcome → State → Prop} (hpost : ∀ tb e args s v u, (limb_1_1.after args s (.returned v) u = true ∧ limb_1_2.after args s (.returned v) u = true ∧ True) → FrameEnd s (.returned v) u (Jvm.fieldLocs frame_1_writes args s ++ Jvm.arrayLocs frame_1_arrays args s ++ Jvm.staticLocs frame_1_statics s) 16 128 → Post tb e args s (.returned v) u) :
    ArmFor flags0 classFile x code maxLocals ret World_1 tables_1 room_1 Calls_1 rest_1 Pre_1 Post := by
  intro l hfl _ _ p e ha hc hk s m args below hf hA hF happ hP
  obtain ⟨hcalls, hrest, hpre⟩ := hP
  obtain ⟨-, -, -, hnamed, -, -, -, hat⟩ := (Spec.applies_iff hf).mp happ
  obtain ⟨hg, hn⟩ := and_e (Cond.before_iff.mp (show (Jvm.Cond.and given_1 narrow_1).before args s = true from hpre))
  obtain ⟨g0, r0⟩ := and_e hg
  obtain ⟨g1, r1⟩ := and_e r0
  obtain ⟨g2, r2⟩ := and_e r1
  obtain ⟨g3, r3⟩ := and_e r2
  obtain ⟨w0, w1, w2, w3, rfl⟩ : ∃ w0 w1 w2 w3 : Value, args = #[w0, w1, w2, w3] := by
    have hs : args.size = 4 := by simpa [Cond.value, given_1] using g0
    obtain ⟨L⟩ := args
    match L, hs with
    | [w0, w1, w2, w3], _ => exact ⟨w0, w1, w2, w3, rfl⟩
  have hw := fun d (hd : d ∈ tables_1) => atoms_spec (ws := Jvm.Cond.code x code maxLocals ret :: tables_1) hat d (List.mem_cons_of_mem _ hd)
  have hfit : Fit s := fun {y c} hc i hi => by
    obtain ⟨ha, rfl⟩ := Array.getElem?_eq_some_iff.mp hc
    have q := List.all_eq_true.mp ((Array.all_eq_true_iff_forall_mem.mp hF) _ (Array.getElem_mem ha)) i (List.mem_range.mpr hi)
    simpa [Array.getElem?_eq_getElem hi] using q
  obtain ⟨i0, ev0⟩ := is_v g1
  obtain rfl : w0 = (.int i0) := Option.some.inj ev0
  obtain ⟨i1, ev1⟩ := is_v g2
  obtain rfl : w1 = (.int i1) := Option.some.inj ev1
  obtain ⟨i2, ev2⟩ := is_v g3
  obtain rfl : w2 = (.int i2) := Option.some.inj ev2
  obtain ⟨i3, ev3⟩ := is_v r3
  obtain rfl : w3 = (.int i3) := Option.some.inj ev3
  obtain ⟨n, o, h1, h2, h3, _, L, rfl, ⟨rfl, N⟩, hq⟩ := rm0 l s _ hw tables_1 i0 i1 i2 i3 s.heap s.heap.size (Nat.le_refl _)  p e ha hc hk s m _ below hf ((Spec.applies_iff_loose hf).mp happ).1 ⟨rfl, State.Warmed39.refl s, rfl⟩ trivial
  refine ⟨n, _, h1, h2, h3, hpost _ _ _ _ _ _ ⟨Cond.after_iff.mpr rfl, Cond.after_iff.mpr (eq_i res_at (Term.int_eval (1)) rfl), trivial⟩ ⟨hq.1, hq.2.1, (hq.2.2.sift fun y hy => Or.inr (N y hy)).mono (by decide) (by decide)⟩⟩
theorem main_1_1 : Claimed_1_1 := comes_1 fun _ _ _ _ _ _ h hF => ⟨h.1, hF⟩
theorem main_1_2 : Claimed_1_2 := comes_1 fun _ _ _ _ _ _ h hF => ⟨h.2.1, hF⟩
end Jvm.Pilot.@@N@@
namespace Jvm.Pilot.@@N@@
open Jvm Jvm.ClassFile Sem Op Lib Jvm.Free Jvm.Stand Jvm.Pilot.@@N@@.Jvm.D
/-! MADE BY PROGRAM (witnessworld.py) out of the Statement's table words and the real class files: 9 classes; the members and pool entries that the words name. The judged class is class 1, her method 1. -/
namespace start1
open Jvm.ClassFile
def u (s : String) : CpInfo := .utf8 (stringToUtf16 s)
/-- a pool by its gaps: so many unusable entries, then the entry; so many at the end -/
def gap : Nat → List CpInfo → List CpInfo
  | 0, r => r
  | n + 1, r => .unusable :: gap n r
def poolList (es : List (Nat × CpInfo)) (last : Nat) : List CpInfo := es.foldr (fun e r => gap e.1 (e.2 :: r)) (gap last [])
def pool (es : List (Nat × CpInfo)) (last : Nat) : Array CpInfo := ⟨poolList es last⟩
def fileOf (pool : Array CpInfo) (this : Nat) (attrs : Array Attribute := #[]) (ms : Array MethodInfo := #[]) (fl : Nat := 33) (sup : Nat := 0) (ifs : Array Nat := #[]) (fds : Array FieldInfo := #[]) : ClassFile where
  minorVersion := 0
  majorVersion := 65
  constantPool := pool
  accessFlags := fl
  thisClass := this
  superClass := sup
  interfaces := ifs
  fields := fds
  methods := ms
  attributes := attrs
def plain (name : String) (sup : Option ClassId) : Class where
  name := name
  kind := .ordinary
  loader := none
  accessFlags := 33
  super := sup
  interfaces := #[]
  cf := none
  fields := #[]
  methods := #[]
  instanceTypes := #[]
  staticTypes := #[]
  resolved := #[]
  callSites := []
  init := .initialized
  statics := none
  mirror := none

def pool0 : Array CpInfo := pool [(5, u "<init>"), (0, u "()V"), (1, .class_ 10), (1, u "java/lang/Object")] 113

def k0m0 : Method := { name := "<init>", desc := "()V", sig := { parameters := [], returnType := none }, accessFlags := 1, code := none }
/-- java/lang/Object -/
def k0 : Class := { plain "java/lang/Object" none with
  accessFlags := 33
  interfaces := #[]
  cf := some (fileOf pool0 8 #[] #[{ accessFlags := 1, nameIndex := 5, descriptorIndex := 6, attributes := #[] }] 33 0 #[] #[])
  fields := #[]
  methods := #[k0m0]
  instanceTypes := #[]
  staticTypes := #[]
  resolved := Array.replicate 124 none
  statics := none }

def pool1 : Array CpInfo := pool [(2, .class_ 4), (1, u "java/lang/Object"), (0, u "<init>"), (0, u "()V"), (0, .methodref 8 9), (0, .class_ 10), (0, .nameAndType 11 12), (0, u "com/example/reading_buckets/readingbuckets/BucketIsCompressedPinLaw"), (0, u "fill"), (0, u "([BII)V"), (0, .methodref 14 15), (0, .class_ 16), (0, .nameAndType 17 18), (0, u "com/example/reading_buckets/readingbuckets/Bucket"), (0, u "isCompressed"), (0, u "([B)Z"), (2, u "law"), (0, u "(IIII)Z")] 5

def k1m0 : Method := { name := "<init>", desc := "()V", sig := { parameters := [], returnType := none }, accessFlags := 1, code := none }
def k1c1 : Code := { maxStack := 3, maxLocals := 8, code := code, exceptionTable := #[], attributes := #[] }
def k1m1 : Method := { name := "law", desc := "(IIII)Z", sig := { parameters := [.int, .int, .int, .int], returnType := some .boolean }, accessFlags := 9, code := some k1c1 }
def k1c2 : Code := { maxStack := 4, maxLocals := 3, code := method_3_code, exceptionTable := #[], attributes := #[] }
def k1m2 : Method := { name := "fill", desc := "([BII)V", sig := { parameters := [(.array .byte), .int, .int], returnType := none }, accessFlags := 10, code := some k1c2 }
/-- com/example/reading_buckets/readingbuckets/BucketIsCompressedPinLaw -/
def k1 : Class := { plain "com/example/reading_buckets/readingbuckets/BucketIsCompressedPinLaw" (some 0) with
  accessFlags := 49
  interfaces := #[]
  cf := some (fileOf pool1 8 #[] #[{ accessFlags := 1, nameIndex := 5, descriptorIndex := 6, attributes := #[] }, { accessFlags := 9, nameIndex := 21, descriptorIndex := 22, attributes := #[] }, { accessFlags := 10, nameIndex := 11, descriptorIndex := 12, attributes := #[] }] 49 2 #[] #[])
  fields := #[]
  methods := #[k1m0, k1m1, k1m2]
  instanceTypes := #[]
  staticTypes := #[]
  resolved := Array.replicate 28 none
  statics := none }

def pool2 : Array CpInfo := pool [(5, u "<init>"), (0, u "()V"), (1, .class_ 10), (1, u "com/example/reading_buckets/readingbuckets/Bucket"), (2, .class_ 14), (0, u "java/lang/Object"), (2, u "times"), (0, u "[J"), (2, u "items"), (0, u "Ljava/util/List;"), (58, .class_ 83), (1, u "com/example/reading_buckets/readingbuckets/Bucket$Visitor"), (125, u "isCompressed"), (0, u "([B)Z"), (30, u "FULL_LEVEL"), (0, u "I"), (2, u "PLAIN"), (0, u "B"), (1, u "COMPRESSED"), (1, u "FEW_AT_A_TIME")] 81

def k2m0 : Method := { name := "<init>", desc := "()V", sig := { parameters := [], returnType := none }, accessFlags := 0, code := none }
def k2c1 : Code := { maxStack := 2, maxLocals := 1, code := prog_1_method_19_code, exceptionTable := #[], attributes := #[] }
def k2m1 : Method := { name := "isCompressed", desc := "([B)Z", sig := { parameters := [(.array .byte)], returnType := some .boolean }, accessFlags := 8, code := some k2c1 }
/-- com/example/reading_buckets/readingbuckets/Bucket -/
def k2 : Class := { plain "com/example/reading_buckets/readingbuckets/Bucket" (some 0) with
  accessFlags := 48
  interfaces := #[]
  cf := some (fileOf pool2 8 #[.nestMembers #[81]] #[{ accessFlags := 0, nameIndex := 5, descriptorIndex := 6, attributes := #[] }, { accessFlags := 8, nameIndex := 209, descriptorIndex := 210, attributes := #[] }] 48 13 #[] #[{ accessFlags := 26, nameIndex := 241, descriptorIndex := 242, attributes := #[] }, { accessFlags := 26, nameIndex := 245, descriptorIndex := 246, attributes := #[] }, { accessFlags := 26, nameIndex := 248, descriptorIndex := 246, attributes := #[] }, { accessFlags := 26, nameIndex := 250, descriptorIndex := 242, attributes := #[] }, { accessFlags := 2, nameIndex := 17, descriptorIndex := 18, attributes := #[] }, { accessFlags := 18, nameIndex := 21, descriptorIndex := 22, attributes := #[] }])
  fields := #[{ name := "FULL_LEVEL", type := .int, accessFlags := 26, slot := 0, constantValue := 0 }, { name := "PLAIN", type := .byte, accessFlags := 26, slot := 1, constantValue := 0 }, { name := "COMPRESSED", type := .byte, accessFlags := 26, slot := 2, constantValue := 0 }, { name := "FEW_AT_A_TIME", type := .int, accessFlags := 26, slot := 3, constantValue := 0 }, { name := "times", type := (.array .long), accessFlags := 2, slot := 0, constantValue := 0 }, { name := "items", type := (.object "java/util/List"), accessFlags := 18, slot := 1, constantValue := 0 }]
  methods := #[k2m0, k2m1]
  instanceTypes := #[(.array .long), (.object "java/util/List")]
  staticTypes := #[.int, .byte, .byte, .int]
  resolved := Array.replicate 332 none
  statics := none }

def pool3 : Array CpInfo := pool [(1, u "java/lang/Cloneable"), (0, .class_ 1), (0, u "java/lang/Object"), (0, .class_ 3)] 3

/-- java/lang/Cloneable -/
def k3 : Class := { plain "java/lang/Cloneable" (some 0) with
  accessFlags := 1537
  interfaces := #[]
  cf := some (fileOf pool3 2 #[] #[] 1537 4 #[] #[])
  fields := #[]
  methods := #[]
  instanceTypes := #[]
  staticTypes := #[]
  resolved := Array.replicate 8 none
  statics := none }

def pool4 : Array CpInfo := pool [(1, u "java/io/Serializable"), (0, .class_ 1), (0, u "java/lang/Object"), (0, .class_ 3)] 3

/-- java/io/Serializable -/
def k4 : Class := { plain "java/io/Serializable" (some 0) with
  accessFlags := 1537
  interfaces := #[]
  cf := some (fileOf pool4 2 #[] #[] 1537 4 #[] #[])
  fields := #[]
  methods := #[]
  instanceTypes := #[]
  staticTypes := #[]
  resolved := Array.replicate 8 none
  statics := none }

/-- the primitive byte -/
def k5 : Class := { plain "byte" none with kind := .primitive 'B', accessFlags := 0x411 }
/-- [B -/
def k6 : Class := { plain "[B" (some 0) with kind := .array 5 .byte, interfaces := #[3, 4], accessFlags := 1041 }

/-- the primitive int -/
def k7 : Class := { plain "int" none with kind := .primitive 'I', accessFlags := 0x411 }
/-- [I -/
def k8 : Class := { plain "[I" (some 0) with kind := .array 7 .int, interfaces := #[3, 4], accessFlags := 1041 }

def heap : Heap := #[]
def classes : Array Class := #[k0, k1, k2, k3, k4, k5, k6, k7, k8]
def interned : List (Array UInt16 × Addr) := []
def slotsUsed : Nat := 0
def theMethod : MethodId := ⟨1, 1⟩
def args0 : Array Value := #[.int 1, .int 6, .int 7, .int 2]
def aboutOver (below : List Frame) : State where
  vm := { classes := classes, interned := interned.toArray }
  heap := heap
  slotsUsed := slotsUsed
  threads := #[{ frames := .invoking theMethod args0 :: below }]
def below0 : List Frame := [.native { method := ⟨0, 0⟩, args := #[] }]
def about1 : State := aboutOver below0
def p0 : Program := .bare "" "" ""
def e0 : Env := launch0.env 0 0 0
theorem w_frames : about1.frames = Frame.invoking theMethod args0 :: below0 := rfl
set_option maxRecDepth 65536 in
theorem w_args : argsFit about1.vm theMethod args0 = true := by decide +kernel
set_option maxRecDepth 65536 in
theorem w_heap : heapFits about1 = true := by decide +kernel
set_option maxRecDepth 65536 in
theorem w_runnable : about1.curStatus? = some .runnable := by decide +kernel
set_option maxRecDepth 65536 in
theorem w_alone : about1.alone = true := by decide +kernel
set_option maxRecDepth 65536 in
theorem w_named : about1.methodNamed? x = some theMethod := by decide +kernel
set_option maxRecDepth 65536 in
theorem w_hears : about1.hears theMethod below0 = true := by decide +kernel
set_option maxRecDepth 65536 in
theorem w_ripe : about1.ripe theMethod args0 below0 = true := by decide +kernel
theorem w_running : about1.status = .running := rfl
set_option maxRecDepth 65536 in
theorem w_room : about1.hasRoom e0.platform room_1 = true :=
  launch0.hasRoom_least _ room_1 (by decide +kernel) (by decide +kernel) (by decide +kernel) (by decide +kernel) (by decide +kernel) (by decide +kernel)
theorem allAtoms_all (ts : List Jvm.Cond) (a : Array Jvm.Value) (st : Jvm.State) : (allAtoms ts).before a st = ts.all (fun c => c.before a st) := by
  induction ts with
  | nil => rfl
  | cons c t ih =>
    show (Jvm.Cond.and c (allAtoms t)).before a st = _
    rw [Jvm.Cond.before_and, ih, List.all_cons]
def words1 : List Jvm.Cond := Jvm.Cond.code x code maxLocals ret :: tables_1
/-- a 'code' word, met by the world's own term for the bytes: nothing is compared byte by byte -/
theorem code_word {y : MethodName} {bytes : ByteArray} {mx : Nat} {rt : Option FieldType} {a : Array Value} {s : State} {m : MethodId} {meth : Method} {c : Code} (h1 : s.methodNamed? y = some m) (h2 : s.vm.method? m = some meth) (h3 : meth.code = some c) (h4 : c.code = bytes)
    (h5 : (c.maxLocals == mx && c.exceptionTable.isEmpty && decide (c.maxStack ≤ mostOperands) && decide (meth.sig.returnType = rt) && !meth.locks && decide (parseMethodDescriptor y.desc = some meth.sig)) = true) : (Jvm.Cond.code y bytes mx rt).before a s = true := by
  simp only [Bool.and_eq_true, beq_iff_eq, Bool.not_eq_true', decide_eq_true_eq] at h5
  obtain ⟨⟨⟨⟨⟨g1, g2⟩, g3⟩, g4⟩, g5⟩, g6⟩ := h5
  simp [Cond.before, Cond.holds, Cond.value, h1, h2, h3, h4, g1, g2, g3, g4, g5, g6]
def isCode : Jvm.Cond → Bool
  | .code _ _ _ _ => true
  | _ => false
theorem all_split {L : List Jvm.Cond} {P : Jvm.Cond → Bool} (h1 : L.all (fun c => isCode c || P c) = true) (h2 : ∀ c ∈ L.filter isCode, P c = true) : L.all P = true := by
  refine List.all_eq_true.mpr fun c hc => ?_
  have h := List.all_eq_true.mp h1 c hc
  rcases Bool.eq_false_or_eq_true (isCode c) with hi | hi
  · exact h2 c (List.mem_filter.mpr ⟨hc, hi⟩)
  · simpa [hi] using h
set_option maxRecDepth 65536 in
theorem w_c0 : (Jvm.Cond.code x code maxLocals ret).before args0 about1 = true := code_word (m := ⟨1, 1⟩) (meth := k1m1) (c := k1c1) (by decide +kernel) rfl rfl rfl (by decide +kernel)
set_option maxRecDepth 65536 in
theorem w_c1 : (Jvm.Cond.code ({ cls := "com/example/reading_buckets/readingbuckets/BucketIsCompressedPinLaw", name := "fill", desc := "([BII)V" } : Jvm.MethodName) method_3_code (3 : Nat) (Option.none : Option Jvm.ClassFile.FieldType)).before args0 about1 = true := code_word (m := ⟨1, 2⟩) (meth := k1m2) (c := k1c2) (by decide +kernel) rfl rfl rfl (by decide +kernel)
set_option maxRecDepth 65536 in
theorem w_c2 : (Jvm.Cond.code ({ cls := "com/example/reading_buckets/readingbuckets/Bucket", name := "isCompressed", desc := "([B)Z" } : Jvm.MethodName) prog_1_method_19_code (1 : Nat) (Option.some Jvm.ClassFile.FieldType.boolean)).before args0 about1 = true := code_word (m := ⟨2, 1⟩) (meth := k2m1) (c := k2c1) (by decide +kernel) rfl rfl rfl (by decide +kernel)
def codes1 : List Jvm.Cond := [Jvm.Cond.code x code maxLocals ret, Jvm.Cond.code ({ cls := "com/example/reading_buckets/readingbuckets/BucketIsCompressedPinLaw", name := "fill", desc := "([BII)V" } : Jvm.MethodName) method_3_code (3 : Nat) (Option.none : Option Jvm.ClassFile.FieldType), Jvm.Cond.code ({ cls := "com/example/reading_buckets/readingbuckets/Bucket", name := "isCompressed", desc := "([B)Z" } : Jvm.MethodName) prog_1_method_19_code (1 : Nat) (Option.some Jvm.ClassFile.FieldType.boolean)]
set_option maxRecDepth 65536 in
theorem codes_eq : words1.filter isCode = codes1 := rfl
theorem w_codes : ∀ c ∈ words1.filter isCode, c.before args0 about1 = true := by
  rw [codes_eq]
  intro c hc
  simp only [codes1, List.mem_cons, List.not_mem_nil, or_false] at hc
  rcases hc with rfl | rfl | rfl
  · exact w_c0
  · exact w_c1
  · exact w_c2
set_option maxRecDepth 65536 in
theorem w_t1 : words1.all (fun c => isCode c || c.before args0 about1) = true := by decide +kernel
theorem w_tables : (allAtoms (Jvm.Cond.code x code maxLocals ret :: tables_1)).before args0 about1 = true := by
  rw [allAtoms_all]
  show words1.all (fun c => c.before args0 about1) = true
  refine all_split ?_ w_codes
  rw [w_t1]
set_option maxRecDepth 65536 in
theorem w_case : (Jvm.Cond.and given_1 narrow_1).before args0 about1 = true := by decide +kernel
theorem w_applies : (headSpec (Jvm.Cond.code x code maxLocals ret :: tables_1) room_1).applies x e0.platform about1 = true :=
  (Spec.applies_iff w_frames).mpr ⟨w_running, w_runnable, w_alone, w_named, w_hears, w_ripe, w_room, w_tables⟩
theorem atStart : AtStart classFile x code maxLocals ret World_1 tables_1 room_1 Calls_1 rest_1 Pre_1 launch0 p0 e0 about1 theMethod args0 below0 :=
  ⟨lists_1, trivial, launch0.admits_env _ _ _, launch0.least_env, fairChoices_fair.cas, fairChoices_fair.clock, w_frames, w_args, w_heap, w_applies, trivial, trivial, w_case⟩
end start1
theorem witness_1 : WitnessClaimed_1 := ⟨start1.p0, start1.e0, start1.about1, start1.theMethod, start1.args0, start1.below0, start1.atStart⟩
end Jvm.Pilot.@@N@@
