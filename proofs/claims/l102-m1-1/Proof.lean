import JvmDerived
import JvmDerived.Pilot.@@N@@Statement
import JvmDerived.Pilot.@@N@@Code
set_option linter.unusedVariables false
set_option linter.unusedSimpArgs false
namespace Jvm.RoadKit
open Sem ClassFile Op Lib Jvm.Stand Jvm.Free Jvm.LawKit
section New
variable {p : Program} {l : Launch} {e : Env} {R : Room} {s : State} {m : MethodId} {args : Array Value} {below : List Frame} {meth : Method} {c : Code} {T : State} {locs : List Loc} {cells slots : Nat}
theorem retI (X : Stand p l e R s m args below meth c T locs cells slots) (hx : p.tables.exec = Jvm.exec) {pc : Nat} {Ls : Array Slot} {z : Int32} {rest : List Value} (hret : meth.sig.returnType = some .int) (hd : decode c.code pc = .ok (.ireturn, 1)) {fs : List Frame}
    (hl : ∀ (f : JFrame) (acts : List Action), f.method = m → f.locked = none → f.entered = [] → (doReturn e (T.setTop f) acts (some (.int z))).1 = T.setFrames fs) : Steps p.tables e below (T.setTop (mkF m pc Ls (.int z :: rest))) (T.setFrames fs) := by
  have hm' : T.vm.method? m = some meth := X.method'
  have hn : narrow .int (.int z) = .int z := rfl
  show Steps p.tables e below (T.setTop { method := m, pc := pc, locals := Ls, stack := _ :: rest, locked := none }) _
  jvm_step X.here [X.here.top, hx, hd, hm', hret, hn]
  first | (intro acts; rw [hl _ acts rfl rfl rfl]) | rw [hl _ _ rfl rfl rfl]
  exact Steps.refl _
/-- a boolean, byte, char or short that is one already -/
theorem own_retB (X : Stand p l e R s m args below meth c T locs cells slots) (hx : p.tables.exec = Jvm.exec) {pc : Nat} {Ls : Array Slot} {z : Int32} {t : FieldType} {rest : List Value} (hret : meth.sig.returnType = some t) (ht : t = .boolean ∨ t = .byte ∨ t = .char ∨ t = .short) (hz : nar t z = z)
    (hd : decode c.code pc = .ok (.ireturn, 1)) {fs : List Frame} (hl : ∀ (f : JFrame) (acts : List Action), f.method = m → f.locked = none → f.entered = [] → (doReturn e (T.setTop f) acts (some (.int z))).1 = T.setFrames fs) :
    Steps p.tables e below (T.setTop (mkF m pc Ls (.int z :: rest))) (T.setFrames fs) := retN X hx hret ht hd (by rw [hz]; exact hl)
theorem own_retL (X : Stand p l e R s m args below meth c T locs cells slots) (hx : p.tables.exec = Jvm.exec) {pc : Nat} {Ls : Array Slot} {z : Int64} {rest : List Value} (hret : meth.sig.returnType = some .long) (hd : decode c.code pc = .ok (.lreturn, 1)) {fs : List Frame}
    (hl : ∀ (f : JFrame) (acts : List Action), f.method = m → f.locked = none → f.entered = [] → (doReturn e (T.setTop f) acts (some (.long z))).1 = T.setFrames fs) : Steps p.tables e below (T.setTop (mkF m pc Ls (.long z :: rest))) (T.setFrames fs) :=
  retOut X hx hret rfl (Or.inr (Or.inl ⟨rfl, rfl, z, rfl⟩)) hd hl
end New
end Jvm.RoadKit
namespace Jvm.Pilot.@@N@@
open Jvm Jvm.ClassFile Sem Op Lib Jvm.Free Jvm.Stand Jvm.LawKit Jvm.RoadKit Bundle Jvm.Pilot.@@N@@.Jvm.D
theorem own_w {a0 : Array Value} {Z : State} (hw : ∀ d ∈ tables_1, d.before a0 Z = true) (i : Nat) {d : Jvm.Cond} (h : tables_1[i]? = some d) : d.before a0 Z = true := hw _ (List.mem_of_getElem? h)
/-- from A the walk comes to an end that P takes -/
abbrev own_R (tb : Tables) (e : Env) (below : List Frame) (P : State → Outcome → Prop) (A : State) : Prop := ∃ t o, Steps tb e below A t ∧ t.status = .running ∧ Ended t below o ∧ P t o
abbrev own_P (s : State) (Q : Option Value → Heap → List Loc → Prop) (k n : Nat) (t : State) (o : Outcome) : Prop := ∃ v L, o = .returned v ∧ Q v t.heap L ∧ FrameEnd s o t L k n
abbrev own_PW (s : State) (Q : Option Value → Heap → List Loc → Prop) (k n : Nat) (t : State) (o : Outcome) : Prop := ∃ v L, o = .returned v ∧ Q v t.heap L ∧ ReturnedEndW s o t L k n
theorem own_step {tb : Tables} {e : Env} {below : List Frame} {P : State → Outcome → Prop} {A A' : State} (st : ∀ t, Steps tb e below A' t → Steps tb e below A t) (h : own_R tb e below P A') : own_R tb e below P A := by
  obtain ⟨t, o, h1, h2⟩ := h
  exact ⟨t, o, st t h1, h2⟩
theorem own_go {tb : Tables} {e : Env} {below : List Frame} {P : State → Outcome → Prop} {A A' : State} (st : Steps tb e below A A') (h : own_R tb e below P A') : own_R tb e below P A := own_step (fun _ k => st.trans k) h
theorem own_f {tb : Tables} {e : Env} {below : List Frame} {P : State → Outcome → Prop} {A : State} (T : State) (g : JFrame) (st : ∀ t, Steps tb e below (T.setTop g) t → Steps tb e below A t) (h : own_R tb e below P (T.setTop g)) : own_R tb e below P A := own_step st h
theorem own_g {tb : Tables} {e : Env} {below : List Frame} {P : State → Outcome → Prop} {A : State} (T : State) (g : JFrame) (st : Steps tb e below A (T.setTop g)) (h : own_R tb e below P (T.setTop g)) : own_R tb e below P A := own_go st h
theorem own_lsw {tb : Tables} [Ours tb] {e : Env} {below : List Frame} {T target : State} {m : MethodId} {c : Code} {g : JFrame} (h : At T m c below) (hx : tb.exec = Jvm.exec) (hg : g.method = m) {df : Int} {ps : Array (Int × Int)} {len : Nat} {o : Int} {pc0 pc' : Nat} (hpc : g.pc = pc0) (hd : decode c.code g.pc = .ok (.lookupswitch df ps, len)) {i : Int32} {rest : List Value} (hs : g.stack = .int i :: rest)
    (hord : (ps.toList.zip (ps.toList.drop 1)).all (fun (a, next) => a.1 < next.1) = true) (hoff : lookupswitch.offset ps.toList df i.toInt = o) (ho : 0 ≤ (pc0 : Int) + o) (hp : ((pc0 : Int) + o).toNat = pc')
    (hr : Steps tb e below (T.setTop { g with pc := pc', stack := rest }) target) : Steps tb e below (T.setTop g) target := by
  subst hg hpc hp
  jvm_step h [h.top, hx, hd, hs, hoff, ho, lookupswitch.wp_chain]
  exact ⟨by simpa using hord, hr⟩
theorem own_len {p : Program} {l : Launch} {e : Env} {R : Room} {s : State} {m : MethodId} {args : Array Value} {below : List Frame} {meth : Method} {c : Code} {T target : State} {locs : List Loc} {cells slots : Nat} {Z : State} {h : Heap} {a : Addr} {k : ClassId} {ty : FieldType} {z : Int32} {vs : List Value} {dv : Value}
    (X : Stand p l e R s m args below meth c T locs cells slots) (hx : p.tables.exec = Jvm.exec) (hZ : Z.Warmed39 s.vm) (eT : T.heap = h) (F : Arv Z h a k ty z vs dv) {g : JFrame} (hg : g.method = m) {rest : List Value} (hs : g.stack = .ref a :: rest) (hd : decode c.code g.pc = .ok (.arraylength, 1))
    (hr : Steps p.tables e below (T.setTop { g with pc := g.pc + 1, stack := .int z :: rest }) target) : Steps p.tables e below (T.setTop g) target := by
  obtain ⟨cl, A, -, S, q, -⟩ := F
  exact X.arraylength hx (by rw [eT]; exact A.1) (State.isArrayOf_alike hZ.alike A.2.1) hg hs hd _ (by rw [len_of S q]; exact hr)
theorem own_arvnew {Z : State} {h : Heap} {a : Addr} {k : ClassId} {ty : FieldType} {z : Int32} (n : Nat) (A : Arr Z h a (newA k ty z) ty) (q : ¬ z < 0) : Arv Z h a k ty z (List.replicate n (defaultValue ty)) (defaultValue ty) := (Arv.new A q).pad fun i => pad_rep [] _ n i
theorem own_narB (x : Int32) : nar .byte x.toInt8.toInt32 = x.toInt8.toInt32 := by show x.toInt8.toInt32.toInt8.toInt32 = _; simp
theorem own_narC (x : Int32) : nar .char x.toUInt32.toUInt16.toUInt32.toInt32 = x.toUInt32.toUInt16.toUInt32.toInt32 := by show x.toUInt32.toUInt16.toUInt32.toInt32.toUInt32.toUInt16.toUInt32.toInt32 = _; simp only [UInt32.toUInt32_toInt32, UInt16.toUInt16_toUInt32]
theorem own_fitB (x : Int32) : fits .byte (.int (nar .byte x)) = true := fits_nar_byte x
theorem own_nb {z : Int32} (h : z = 0 ∨ z = 1) : narrow .boolean (.int z) = .int z := by rcases h with rfl | rfl <;> rfl
theorem own_fb {z : Int32} (h : z = 0 ∨ z = 1) : fits .boolean (.int z) = true := by rcases h with rfl | rfl <;> rfl
theorem own_nar {z : Int32} (h : z = 0 ∨ z = 1) : nar .boolean z = z := by rcases h with rfl | rfl <;> rfl
def own_se (c : Int32) : Int32 := if c = 34 then c else if c = 47 then c else if c = 92 then c else if c = 98 then 8 else if c = 102 then 12 else if c = 110 then 10 else if c = 114 then 13 else if c = 116 then 9 else -1
def own_ex (c : Int32) : Int32 := if c = 34 then 34 else if c = 92 then 92 else if c = 47 then 47 else if c = 98 then 8 else if c = 102 then 12 else if c = 110 then 10 else if c = 114 then 13 else if c = 116 then 9 else -1
theorem own_same (c : Int32) : own_se c = own_ex c := by
  by_cases h1 : c = 34
  · rw [h1] <;> rfl
  by_cases h2 : c = 47
  · rw [h2] <;> rfl
  by_cases h3 : c = 92
  · rw [h3] <;> rfl
  rw [own_se, own_ex, if_neg h1, if_neg h2, if_neg h3, if_neg h1, if_neg h3, if_neg h2]
theorem own_mask (x : Int32) : x.toUInt32.toUInt16.toUInt32.toInt32 = x &&& (65535 : Int32) := by
  apply Int32.toInt_inj.mp
  have h := c_i2c x
  have g := c_mask x 65535 16 (by decide) (by decide)
  rw [g]
  omega
theorem own_law (x : Int32) : (own_se (x.toUInt32.toUInt16.toUInt32.toInt32)) = (own_ex (x &&& (65535 : Int32))) := by rw [own_mask, own_same]
theorem pd__C_I : parseMethodDescriptor "(C)I" = some ⟨[.char], some .int⟩ := by decide +kernel
theorem pd__I_I : parseMethodDescriptor "(I)I" = some ⟨[.int], some .int⟩ := by decide +kernel
theorem d1_0 : decode prog_77_method_34_code 0 = .ok (.iload_n 0, 1) := by decide +kernel
theorem d1_1 : decode prog_77_method_34_code 1 = .ok (.lookupswitch 92 #[(34, 75), (47, 75), (92, 75), (98, 77), (102, 80), (110, 83), (114, 86), (116, 89)], 75) := by decide +kernel
theorem d1_76 : decode prog_77_method_34_code 76 = .ok (.iload_n 0, 1) := by decide +kernel
theorem d1_77 : decode prog_77_method_34_code 77 = .ok (.ireturn, 1) := by decide +kernel
theorem d1_78 : decode prog_77_method_34_code 78 = .ok (.bipush 8, 2) := by decide +kernel
theorem d1_80 : decode prog_77_method_34_code 80 = .ok (.ireturn, 1) := by decide +kernel
theorem d1_81 : decode prog_77_method_34_code 81 = .ok (.bipush 12, 2) := by decide +kernel
theorem d1_83 : decode prog_77_method_34_code 83 = .ok (.ireturn, 1) := by decide +kernel
theorem d1_84 : decode prog_77_method_34_code 84 = .ok (.bipush 10, 2) := by decide +kernel
theorem d1_86 : decode prog_77_method_34_code 86 = .ok (.ireturn, 1) := by decide +kernel
theorem d1_87 : decode prog_77_method_34_code 87 = .ok (.bipush 13, 2) := by decide +kernel
theorem d1_89 : decode prog_77_method_34_code 89 = .ok (.ireturn, 1) := by decide +kernel
theorem d1_90 : decode prog_77_method_34_code 90 = .ok (.bipush 9, 2) := by decide +kernel
theorem d1_92 : decode prog_77_method_34_code 92 = .ok (.ireturn, 1) := by decide +kernel
theorem d1_93 : decode prog_77_method_34_code 93 = .ok (.iconst (-1), 1) := by decide +kernel
theorem d1_94 : decode prog_77_method_34_code 94 = .ok (.ireturn, 1) := by decide +kernel
theorem pn_1 : plainName "com/example/modelwright/modelwright/model/SourceParser" = true := by first | (simp [plainName, overriddenIn]; done) | decide +kernel
theorem ef_1 (m : MethodId) (x0 : Int32) : entryFrame m #[(.int x0)] 1 = mkF m 0 #[.val (.int x0)] [] := by first | (simp [entryFrame, mkF, argsToLocals, Value.category]; done) | rfl
def Q1 (Z : State) (p1 : Int32) (h0 : Heap) (n0 : Nat) (v : Option Value) (h : Heap) (L : List Loc) : Prop := v = some (.int (own_se p1)) ∧ Fr n0 L ∧ h = h0
set_option maxRecDepth 65536 in
set_option maxHeartbeats 40000000 in
theorem rm1 (l : Launch) (Z : State) (a0 : Array Value) (hw : ∀ d ∈ tables_1, d.before a0 Z = true) (ws : List Jvm.Cond) (p1 : Int32) (h0 : Heap) (n0 : Nat) (Z0 : n0 ≤ h0.size) :
    MetFree l (⟨"com/example/modelwright/modelwright/model/SourceParser", "singleEscape", "(C)I"⟩ : MethodName) (head1 (Jvm.Cond.code (⟨"com/example/modelwright/modelwright/model/SourceParser", "singleEscape", "(C)I"⟩ : MethodName) prog_77_method_34_code 1 (some .int) :: ws) ({ frames := 0, cells := 0, slots := 0, locals := 0 } : Room)) (fun a U => a = #[(.int p1)] ∧ Z.Warmed39 U.vm ∧ U.heap = h0) (fun _ _ _ _ _ => True) (fun _ U o U' => ∃ v L, o = .returned v ∧ Q1 Z p1 h0 n0 v U'.heap L ∧ FrameEnd U o U' L ({ frames := 0, cells := 0, slots := 0, locals := 0 } : Room).cells ({ frames := 0, cells := 0, slots := 0, locals := 0 } : Room).slots) := by
  refine MetFree.of_bodySF (plainFor_of_name pn_1) hisR ?_
  intro p e s m args below meth c s₁ Bd hml0 hP hK
  obtain ⟨rfl, hZ, hh⟩ := hP
  have hx := Bd.exec
  have hby := Bd.bytes
  have hml : c.maxLocals = 1 := hml0
  have hown : s.vm.findClass "com/example/modelwright/modelwright/model/SourceParser" = some m.cls := findClass_of_methodNamed Bd.named
  have hnm := (name_of_methodNamed Bd.named Bd.method).1
  have X0 : Stand p l e ({ frames := 0, cells := 0, slots := 0, locals := 0 } : Room) s m #[(.int p1)] below meth c s₁ [] 0 0 := Stand.of_body Bd
  have e0 : s₁.heap = h0 := by rw [← hh, Bd.state]; rfl
  have N0 := Fr.nil n0
  show own_R p.tables e below (own_P s (Q1 Z p1 h0 n0) ({ frames := 0, cells := 0, slots := 0, locals := 0 } : Room).cells ({ frames := 0, cells := 0, slots := 0, locals := 0 } : Room).slots) (s₁.setTop (entryFrame m #[(.int p1)] 1))
  refine own_f s₁ (mkF m 0 #[.val (.int p1)] []) (fun t k => castTop (ef_1 m p1) k) ?_
  refine own_f s₁ (mkF m 1 #[.val (.int p1)] [(.int p1)]) (fun t k => XS.iloadN X0.here hx rfl (hb hby d1_0) rfl k) ?_
  by_cases hc1 : p1 = (34 : Int32)
  · skip
    refine own_f s₁ (mkF m 76 #[.val (.int p1)] []) (fun t k => own_lsw X0.here hx rfl (pc0 := 1) (pc' := 76) rfl (hb hby d1_1) rfl (o := 75) (by decide) (by rw [hc1]; rfl) (by decide) (by decide) k) ?_
    refine own_f s₁ (mkF m 77 #[.val (.int p1)] [(.int p1)]) (fun t k => XS.iloadN X0.here hx rfl (hb hby d1_76) rfl k) ?_
    obtain ⟨fs, hr, hrun, hended, hW, hsame⟩ := X0.leave (v := some (.int p1)) (fun h => by rw [Bd.returns] at h; cases h)
    refine ⟨_, _, retI X0 hx Bd.returns (hb hby d1_77) hr, hrun, hended, _, _, rfl, ?_, ⟨_, rfl⟩, hW, hsame.mono (by decide) (by decide)⟩
    show Q1 Z p1 h0 n0 _ s₁.heap _
    rw [e0]
    exact ⟨by rw [hc1] <;> rfl, N0, rfl⟩
  by_cases hc2 : p1 = (47 : Int32)
  · skip
    refine own_f s₁ (mkF m 76 #[.val (.int p1)] []) (fun t k => own_lsw X0.here hx rfl (pc0 := 1) (pc' := 76) rfl (hb hby d1_1) rfl (o := 75) (by decide) (by rw [hc2]; rfl) (by decide) (by decide) k) ?_
    refine own_f s₁ (mkF m 77 #[.val (.int p1)] [(.int p1)]) (fun t k => XS.iloadN X0.here hx rfl (hb hby d1_76) rfl k) ?_
    obtain ⟨fs, hr, hrun, hended, hW, hsame⟩ := X0.leave (v := some (.int p1)) (fun h => by rw [Bd.returns] at h; cases h)
    refine ⟨_, _, retI X0 hx Bd.returns (hb hby d1_77) hr, hrun, hended, _, _, rfl, ?_, ⟨_, rfl⟩, hW, hsame.mono (by decide) (by decide)⟩
    show Q1 Z p1 h0 n0 _ s₁.heap _
    rw [e0]
    exact ⟨by rw [hc2] <;> rfl, N0, rfl⟩
  by_cases hc3 : p1 = (92 : Int32)
  · skip
    refine own_f s₁ (mkF m 76 #[.val (.int p1)] []) (fun t k => own_lsw X0.here hx rfl (pc0 := 1) (pc' := 76) rfl (hb hby d1_1) rfl (o := 75) (by decide) (by rw [hc3]; rfl) (by decide) (by decide) k) ?_
    refine own_f s₁ (mkF m 77 #[.val (.int p1)] [(.int p1)]) (fun t k => XS.iloadN X0.here hx rfl (hb hby d1_76) rfl k) ?_
    obtain ⟨fs, hr, hrun, hended, hW, hsame⟩ := X0.leave (v := some (.int p1)) (fun h => by rw [Bd.returns] at h; cases h)
    refine ⟨_, _, retI X0 hx Bd.returns (hb hby d1_77) hr, hrun, hended, _, _, rfl, ?_, ⟨_, rfl⟩, hW, hsame.mono (by decide) (by decide)⟩
    show Q1 Z p1 h0 n0 _ s₁.heap _
    rw [e0]
    exact ⟨by rw [hc3] <;> rfl, N0, rfl⟩
  by_cases hc4 : p1 = (98 : Int32)
  · skip
    refine own_f s₁ (mkF m 78 #[.val (.int p1)] []) (fun t k => own_lsw X0.here hx rfl (pc0 := 1) (pc' := 78) rfl (hb hby d1_1) rfl (o := 77) (by decide) (by rw [hc4]; rfl) (by decide) (by decide) k) ?_
    refine own_f s₁ (mkF m 80 #[.val (.int p1)] [(.int (8 : Int32))]) (fun t k => XT.bipushV X0.here hx rfl (8 : Int32) (hb hby d1_78) (by decide) k) ?_
    obtain ⟨fs, hr, hrun, hended, hW, hsame⟩ := X0.leave (v := some (.int (8 : Int32))) (fun h => by rw [Bd.returns] at h; cases h)
    refine ⟨_, _, retI X0 hx Bd.returns (hb hby d1_80) hr, hrun, hended, _, _, rfl, ?_, ⟨_, rfl⟩, hW, hsame.mono (by decide) (by decide)⟩
    show Q1 Z p1 h0 n0 _ s₁.heap _
    rw [e0]
    exact ⟨by rw [hc4] <;> rfl, N0, rfl⟩
  by_cases hc5 : p1 = (102 : Int32)
  · skip
    refine own_f s₁ (mkF m 81 #[.val (.int p1)] []) (fun t k => own_lsw X0.here hx rfl (pc0 := 1) (pc' := 81) rfl (hb hby d1_1) rfl (o := 80) (by decide) (by rw [hc5]; rfl) (by decide) (by decide) k) ?_
    refine own_f s₁ (mkF m 83 #[.val (.int p1)] [(.int (12 : Int32))]) (fun t k => XT.bipushV X0.here hx rfl (12 : Int32) (hb hby d1_81) (by decide) k) ?_
    obtain ⟨fs, hr, hrun, hended, hW, hsame⟩ := X0.leave (v := some (.int (12 : Int32))) (fun h => by rw [Bd.returns] at h; cases h)
    refine ⟨_, _, retI X0 hx Bd.returns (hb hby d1_83) hr, hrun, hended, _, _, rfl, ?_, ⟨_, rfl⟩, hW, hsame.mono (by decide) (by decide)⟩
    show Q1 Z p1 h0 n0 _ s₁.heap _
    rw [e0]
    exact ⟨by rw [hc5] <;> rfl, N0, rfl⟩
  by_cases hc6 : p1 = (110 : Int32)
  · skip
    refine own_f s₁ (mkF m 84 #[.val (.int p1)] []) (fun t k => own_lsw X0.here hx rfl (pc0 := 1) (pc' := 84) rfl (hb hby d1_1) rfl (o := 83) (by decide) (by rw [hc6]; rfl) (by decide) (by decide) k) ?_
    refine own_f s₁ (mkF m 86 #[.val (.int p1)] [(.int (10 : Int32))]) (fun t k => XT.bipushV X0.here hx rfl (10 : Int32) (hb hby d1_84) (by decide) k) ?_
    obtain ⟨fs, hr, hrun, hended, hW, hsame⟩ := X0.leave (v := some (.int (10 : Int32))) (fun h => by rw [Bd.returns] at h; cases h)
    refine ⟨_, _, retI X0 hx Bd.returns (hb hby d1_86) hr, hrun, hended, _, _, rfl, ?_, ⟨_, rfl⟩, hW, hsame.mono (by decide) (by decide)⟩
    show Q1 Z p1 h0 n0 _ s₁.heap _
    rw [e0]
    exact ⟨by rw [hc6] <;> rfl, N0, rfl⟩
  by_cases hc7 : p1 = (114 : Int32)
  · skip
    refine own_f s₁ (mkF m 87 #[.val (.int p1)] []) (fun t k => own_lsw X0.here hx rfl (pc0 := 1) (pc' := 87) rfl (hb hby d1_1) rfl (o := 86) (by decide) (by rw [hc7]; rfl) (by decide) (by decide) k) ?_
    refine own_f s₁ (mkF m 89 #[.val (.int p1)] [(.int (13 : Int32))]) (fun t k => XT.bipushV X0.here hx rfl (13 : Int32) (hb hby d1_87) (by decide) k) ?_
    obtain ⟨fs, hr, hrun, hended, hW, hsame⟩ := X0.leave (v := some (.int (13 : Int32))) (fun h => by rw [Bd.returns] at h; cases h)
    refine ⟨_, _, retI X0 hx Bd.returns (hb hby d1_89) hr, hrun, hended, _, _, rfl, ?_, ⟨_, rfl⟩, hW, hsame.mono (by decide) (by decide)⟩
    show Q1 Z p1 h0 n0 _ s₁.heap _
    rw [e0]
    exact ⟨by rw [hc7] <;> rfl, N0, rfl⟩
  by_cases hc8 : p1 = (116 : Int32)
  · skip
    refine own_f s₁ (mkF m 90 #[.val (.int p1)] []) (fun t k => own_lsw X0.here hx rfl (pc0 := 1) (pc' := 90) rfl (hb hby d1_1) rfl (o := 89) (by decide) (by rw [hc8]; rfl) (by decide) (by decide) k) ?_
    refine own_f s₁ (mkF m 92 #[.val (.int p1)] [(.int (9 : Int32))]) (fun t k => XT.bipushV X0.here hx rfl (9 : Int32) (hb hby d1_90) (by decide) k) ?_
    obtain ⟨fs, hr, hrun, hended, hW, hsame⟩ := X0.leave (v := some (.int (9 : Int32))) (fun h => by rw [Bd.returns] at h; cases h)
    refine ⟨_, _, retI X0 hx Bd.returns (hb hby d1_92) hr, hrun, hended, _, _, rfl, ?_, ⟨_, rfl⟩, hW, hsame.mono (by decide) (by decide)⟩
    show Q1 Z p1 h0 n0 _ s₁.heap _
    rw [e0]
    exact ⟨by rw [hc8] <;> rfl, N0, rfl⟩
  refine own_f s₁ (mkF m 93 #[.val (.int p1)] []) (fun t k => own_lsw X0.here hx rfl (pc0 := 1) (pc' := 93) rfl (hb hby d1_1) rfl (o := 92) (by decide) (by show lookupswitch.offset [(34, 75), (47, 75), (92, 75), (98, 77), (102, 80), (110, 83), (114, 86), (116, 89)] 92 _ = 92; rw [lookupswitch.offset_cons, if_neg (fun hz => hc1 (Int32.toInt_inj.mp (hz.symm.trans (by decide)))), lookupswitch.offset_cons, if_neg (fun hz => hc2 (Int32.toInt_inj.mp (hz.symm.trans (by decide)))), lookupswitch.offset_cons, if_neg (fun hz => hc3 (Int32.toInt_inj.mp (hz.symm.trans (by decide)))), lookupswitch.offset_cons, if_neg (fun hz => hc4 (Int32.toInt_inj.mp (hz.symm.trans (by decide)))), lookupswitch.offset_cons, if_neg (fun hz => hc5 (Int32.toInt_inj.mp (hz.symm.trans (by decide)))), lookupswitch.offset_cons, if_neg (fun hz => hc6 (Int32.toInt_inj.mp (hz.symm.trans (by decide)))), lookupswitch.offset_cons, if_neg (fun hz => hc7 (Int32.toInt_inj.mp (hz.symm.trans (by decide)))), lookupswitch.offset_cons, if_neg (fun hz => hc8 (Int32.toInt_inj.mp (hz.symm.trans (by decide)))), lookupswitch.offset_nil]) (by decide) (by decide) k) ?_
  refine own_f s₁ (mkF m 94 #[.val (.int p1)] [(.int (-1 : Int32))]) (fun t k => XT.iconstV X0.here hx rfl (-1 : Int32) (hb hby d1_93) (by decide) k) ?_
  obtain ⟨fs, hr, hrun, hended, hW, hsame⟩ := X0.leave (v := some (.int (-1 : Int32))) (fun h => by rw [Bd.returns] at h; cases h)
  refine ⟨_, _, retI X0 hx Bd.returns (hb hby d1_94) hr, hrun, hended, _, _, rfl, ?_, ⟨_, rfl⟩, hW, hsame.mono (by decide) (by decide)⟩
  show Q1 Z p1 h0 n0 _ s₁.heap _
  rw [e0]
  exact ⟨by rw [own_se, if_neg hc1, if_neg hc2, if_neg hc3, if_neg hc4, if_neg hc5, if_neg hc6, if_neg hc7, if_neg hc8], N0, rfl⟩
theorem d2_0 : decode method_2_code 0 = .ok (.iload_n 0, 1) := by decide +kernel
theorem d2_1 : decode method_2_code 1 = .ok (.bipush 34, 2) := by decide +kernel
theorem d2_3 : decode method_2_code 3 = .ok (.if_icmp .ne 6, 3) := by decide +kernel
theorem d2_6 : decode method_2_code 6 = .ok (.bipush 34, 2) := by decide +kernel
theorem d2_8 : decode method_2_code 8 = .ok (.ireturn, 1) := by decide +kernel
theorem d2_9 : decode method_2_code 9 = .ok (.iload_n 0, 1) := by decide +kernel
theorem d2_10 : decode method_2_code 10 = .ok (.bipush 92, 2) := by decide +kernel
theorem d2_12 : decode method_2_code 12 = .ok (.if_icmp .ne 6, 3) := by decide +kernel
theorem d2_15 : decode method_2_code 15 = .ok (.bipush 92, 2) := by decide +kernel
theorem d2_17 : decode method_2_code 17 = .ok (.ireturn, 1) := by decide +kernel
theorem d2_18 : decode method_2_code 18 = .ok (.iload_n 0, 1) := by decide +kernel
theorem d2_19 : decode method_2_code 19 = .ok (.bipush 47, 2) := by decide +kernel
theorem d2_21 : decode method_2_code 21 = .ok (.if_icmp .ne 6, 3) := by decide +kernel
theorem d2_24 : decode method_2_code 24 = .ok (.bipush 47, 2) := by decide +kernel
theorem d2_26 : decode method_2_code 26 = .ok (.ireturn, 1) := by decide +kernel
theorem d2_27 : decode method_2_code 27 = .ok (.iload_n 0, 1) := by decide +kernel
theorem d2_28 : decode method_2_code 28 = .ok (.bipush 98, 2) := by decide +kernel
theorem d2_30 : decode method_2_code 30 = .ok (.if_icmp .ne 6, 3) := by decide +kernel
theorem d2_33 : decode method_2_code 33 = .ok (.bipush 8, 2) := by decide +kernel
theorem d2_35 : decode method_2_code 35 = .ok (.ireturn, 1) := by decide +kernel
theorem d2_36 : decode method_2_code 36 = .ok (.iload_n 0, 1) := by decide +kernel
theorem d2_37 : decode method_2_code 37 = .ok (.bipush 102, 2) := by decide +kernel
theorem d2_39 : decode method_2_code 39 = .ok (.if_icmp .ne 6, 3) := by decide +kernel
theorem d2_42 : decode method_2_code 42 = .ok (.bipush 12, 2) := by decide +kernel
theorem d2_44 : decode method_2_code 44 = .ok (.ireturn, 1) := by decide +kernel
theorem d2_45 : decode method_2_code 45 = .ok (.iload_n 0, 1) := by decide +kernel
theorem d2_46 : decode method_2_code 46 = .ok (.bipush 110, 2) := by decide +kernel
theorem d2_48 : decode method_2_code 48 = .ok (.if_icmp .ne 6, 3) := by decide +kernel
theorem d2_51 : decode method_2_code 51 = .ok (.bipush 10, 2) := by decide +kernel
theorem d2_53 : decode method_2_code 53 = .ok (.ireturn, 1) := by decide +kernel
theorem d2_54 : decode method_2_code 54 = .ok (.iload_n 0, 1) := by decide +kernel
theorem d2_55 : decode method_2_code 55 = .ok (.bipush 114, 2) := by decide +kernel
theorem d2_57 : decode method_2_code 57 = .ok (.if_icmp .ne 6, 3) := by decide +kernel
theorem d2_60 : decode method_2_code 60 = .ok (.bipush 13, 2) := by decide +kernel
theorem d2_62 : decode method_2_code 62 = .ok (.ireturn, 1) := by decide +kernel
theorem d2_63 : decode method_2_code 63 = .ok (.iload_n 0, 1) := by decide +kernel
theorem d2_64 : decode method_2_code 64 = .ok (.bipush 116, 2) := by decide +kernel
theorem d2_66 : decode method_2_code 66 = .ok (.if_icmp .ne 6, 3) := by decide +kernel
theorem d2_69 : decode method_2_code 69 = .ok (.bipush 9, 2) := by decide +kernel
theorem d2_71 : decode method_2_code 71 = .ok (.ireturn, 1) := by decide +kernel
theorem d2_72 : decode method_2_code 72 = .ok (.iconst (-1), 1) := by decide +kernel
theorem d2_73 : decode method_2_code 73 = .ok (.ireturn, 1) := by decide +kernel
theorem pn_2 : plainName "com/example/modelwright/modelwright/model/SourceParserSingleEscapePinLaw" = true := by first | (simp [plainName, overriddenIn]; done) | decide +kernel
theorem ef_2 (m : MethodId) (x0 : Int32) : entryFrame m #[(.int x0)] 1 = mkF m 0 #[.val (.int x0)] [] := by first | (simp [entryFrame, mkF, argsToLocals, Value.category]; done) | rfl
def Q2 (Z : State) (p1 : Int32) (h0 : Heap) (n0 : Nat) (v : Option Value) (h : Heap) (L : List Loc) : Prop := v = some (.int (own_ex p1)) ∧ Fr n0 L ∧ h = h0
set_option maxRecDepth 65536 in
set_option maxHeartbeats 40000000 in
theorem rm2 (l : Launch) (Z : State) (a0 : Array Value) (hw : ∀ d ∈ tables_1, d.before a0 Z = true) (ws : List Jvm.Cond) (p1 : Int32) (h0 : Heap) (n0 : Nat) (Z0 : n0 ≤ h0.size) :
    MetFree l (⟨"com/example/modelwright/modelwright/model/SourceParserSingleEscapePinLaw", "expected", "(I)I"⟩ : MethodName) (head1 (Jvm.Cond.code (⟨"com/example/modelwright/modelwright/model/SourceParserSingleEscapePinLaw", "expected", "(I)I"⟩ : MethodName) method_2_code 1 (some .int) :: ws) ({ frames := 0, cells := 0, slots := 0, locals := 0 } : Room)) (fun a U => a = #[(.int p1)] ∧ Z.Warmed39 U.vm ∧ U.heap = h0) (fun _ _ _ _ _ => True) (fun _ U o U' => ∃ v L, o = .returned v ∧ Q2 Z p1 h0 n0 v U'.heap L ∧ FrameEnd U o U' L ({ frames := 0, cells := 0, slots := 0, locals := 0 } : Room).cells ({ frames := 0, cells := 0, slots := 0, locals := 0 } : Room).slots) := by
  refine MetFree.of_bodySF (plainFor_of_name pn_2) hisR ?_
  intro p e s m args below meth c s₁ Bd hml0 hP hK
  obtain ⟨rfl, hZ, hh⟩ := hP
  have hx := Bd.exec
  have hby := Bd.bytes
  have hml : c.maxLocals = 1 := hml0
  have hown : s.vm.findClass "com/example/modelwright/modelwright/model/SourceParserSingleEscapePinLaw" = some m.cls := findClass_of_methodNamed Bd.named
  have hnm := (name_of_methodNamed Bd.named Bd.method).1
  have X0 : Stand p l e ({ frames := 0, cells := 0, slots := 0, locals := 0 } : Room) s m #[(.int p1)] below meth c s₁ [] 0 0 := Stand.of_body Bd
  have e0 : s₁.heap = h0 := by rw [← hh, Bd.state]; rfl
  have N0 := Fr.nil n0
  show own_R p.tables e below (own_P s (Q2 Z p1 h0 n0) ({ frames := 0, cells := 0, slots := 0, locals := 0 } : Room).cells ({ frames := 0, cells := 0, slots := 0, locals := 0 } : Room).slots) (s₁.setTop (entryFrame m #[(.int p1)] 1))
  refine own_f s₁ (mkF m 0 #[.val (.int p1)] []) (fun t k => castTop (ef_2 m p1) k) ?_
  refine own_f s₁ (mkF m 1 #[.val (.int p1)] [(.int p1)]) (fun t k => XS.iloadN X0.here hx rfl (hb hby d2_0) rfl k) ?_
  refine own_f s₁ (mkF m 3 #[.val (.int p1)] [(.int (34 : Int32)), (.int p1)]) (fun t k => XT.bipushV X0.here hx rfl (34 : Int32) (hb hby d2_1) (by decide) k) ?_
  by_cases hc1 : p1 = (34 : Int32)
  · skip
    refine own_f s₁ (mkF m 6 #[.val (.int p1)] []) (fun t k => XS.icmpNo X0.here hx rfl (hb hby d2_3) rfl (XT.ii_ne_f hc1) k) ?_
    refine own_f s₁ (mkF m 8 #[.val (.int p1)] [(.int (34 : Int32))]) (fun t k => XT.bipushV X0.here hx rfl (34 : Int32) (hb hby d2_6) (by decide) k) ?_
    obtain ⟨fs, hr, hrun, hended, hW, hsame⟩ := X0.leave (v := some (.int (34 : Int32))) (fun h => by rw [Bd.returns] at h; cases h)
    refine ⟨_, _, retI X0 hx Bd.returns (hb hby d2_8) hr, hrun, hended, _, _, rfl, ?_, ⟨_, rfl⟩, hW, hsame.mono (by decide) (by decide)⟩
    show Q2 Z p1 h0 n0 _ s₁.heap _
    rw [e0]
    exact ⟨by rw [hc1] <;> rfl, N0, rfl⟩
  · skip
    refine own_f s₁ (mkF m 9 #[.val (.int p1)] []) (fun t k => XS.icmpYes X0.here hx rfl (pc0 := 3) (pc' := 9) rfl (hb hby d2_3) rfl (XT.ii_ne_t hc1) (by decide) (by decide) k) ?_
    refine own_f s₁ (mkF m 10 #[.val (.int p1)] [(.int p1)]) (fun t k => XS.iloadN X0.here hx rfl (hb hby d2_9) rfl k) ?_
    refine own_f s₁ (mkF m 12 #[.val (.int p1)] [(.int (92 : Int32)), (.int p1)]) (fun t k => XT.bipushV X0.here hx rfl (92 : Int32) (hb hby d2_10) (by decide) k) ?_
    by_cases hc2 : p1 = (92 : Int32)
    · skip
      refine own_f s₁ (mkF m 15 #[.val (.int p1)] []) (fun t k => XS.icmpNo X0.here hx rfl (hb hby d2_12) rfl (XT.ii_ne_f hc2) k) ?_
      refine own_f s₁ (mkF m 17 #[.val (.int p1)] [(.int (92 : Int32))]) (fun t k => XT.bipushV X0.here hx rfl (92 : Int32) (hb hby d2_15) (by decide) k) ?_
      obtain ⟨fs, hr, hrun, hended, hW, hsame⟩ := X0.leave (v := some (.int (92 : Int32))) (fun h => by rw [Bd.returns] at h; cases h)
      refine ⟨_, _, retI X0 hx Bd.returns (hb hby d2_17) hr, hrun, hended, _, _, rfl, ?_, ⟨_, rfl⟩, hW, hsame.mono (by decide) (by decide)⟩
      show Q2 Z p1 h0 n0 _ s₁.heap _
      rw [e0]
      exact ⟨by rw [hc2] <;> rfl, N0, rfl⟩
    · skip
      refine own_f s₁ (mkF m 18 #[.val (.int p1)] []) (fun t k => XS.icmpYes X0.here hx rfl (pc0 := 12) (pc' := 18) rfl (hb hby d2_12) rfl (XT.ii_ne_t hc2) (by decide) (by decide) k) ?_
      refine own_f s₁ (mkF m 19 #[.val (.int p1)] [(.int p1)]) (fun t k => XS.iloadN X0.here hx rfl (hb hby d2_18) rfl k) ?_
      refine own_f s₁ (mkF m 21 #[.val (.int p1)] [(.int (47 : Int32)), (.int p1)]) (fun t k => XT.bipushV X0.here hx rfl (47 : Int32) (hb hby d2_19) (by decide) k) ?_
      by_cases hc3 : p1 = (47 : Int32)
      · skip
        refine own_f s₁ (mkF m 24 #[.val (.int p1)] []) (fun t k => XS.icmpNo X0.here hx rfl (hb hby d2_21) rfl (XT.ii_ne_f hc3) k) ?_
        refine own_f s₁ (mkF m 26 #[.val (.int p1)] [(.int (47 : Int32))]) (fun t k => XT.bipushV X0.here hx rfl (47 : Int32) (hb hby d2_24) (by decide) k) ?_
        obtain ⟨fs, hr, hrun, hended, hW, hsame⟩ := X0.leave (v := some (.int (47 : Int32))) (fun h => by rw [Bd.returns] at h; cases h)
        refine ⟨_, _, retI X0 hx Bd.returns (hb hby d2_26) hr, hrun, hended, _, _, rfl, ?_, ⟨_, rfl⟩, hW, hsame.mono (by decide) (by decide)⟩
        show Q2 Z p1 h0 n0 _ s₁.heap _
        rw [e0]
        exact ⟨by rw [hc3] <;> rfl, N0, rfl⟩
      · skip
        refine own_f s₁ (mkF m 27 #[.val (.int p1)] []) (fun t k => XS.icmpYes X0.here hx rfl (pc0 := 21) (pc' := 27) rfl (hb hby d2_21) rfl (XT.ii_ne_t hc3) (by decide) (by decide) k) ?_
        refine own_f s₁ (mkF m 28 #[.val (.int p1)] [(.int p1)]) (fun t k => XS.iloadN X0.here hx rfl (hb hby d2_27) rfl k) ?_
        refine own_f s₁ (mkF m 30 #[.val (.int p1)] [(.int (98 : Int32)), (.int p1)]) (fun t k => XT.bipushV X0.here hx rfl (98 : Int32) (hb hby d2_28) (by decide) k) ?_
        by_cases hc4 : p1 = (98 : Int32)
        · skip
          refine own_f s₁ (mkF m 33 #[.val (.int p1)] []) (fun t k => XS.icmpNo X0.here hx rfl (hb hby d2_30) rfl (XT.ii_ne_f hc4) k) ?_
          refine own_f s₁ (mkF m 35 #[.val (.int p1)] [(.int (8 : Int32))]) (fun t k => XT.bipushV X0.here hx rfl (8 : Int32) (hb hby d2_33) (by decide) k) ?_
          obtain ⟨fs, hr, hrun, hended, hW, hsame⟩ := X0.leave (v := some (.int (8 : Int32))) (fun h => by rw [Bd.returns] at h; cases h)
          refine ⟨_, _, retI X0 hx Bd.returns (hb hby d2_35) hr, hrun, hended, _, _, rfl, ?_, ⟨_, rfl⟩, hW, hsame.mono (by decide) (by decide)⟩
          show Q2 Z p1 h0 n0 _ s₁.heap _
          rw [e0]
          exact ⟨by rw [hc4] <;> rfl, N0, rfl⟩
        · skip
          refine own_f s₁ (mkF m 36 #[.val (.int p1)] []) (fun t k => XS.icmpYes X0.here hx rfl (pc0 := 30) (pc' := 36) rfl (hb hby d2_30) rfl (XT.ii_ne_t hc4) (by decide) (by decide) k) ?_
          refine own_f s₁ (mkF m 37 #[.val (.int p1)] [(.int p1)]) (fun t k => XS.iloadN X0.here hx rfl (hb hby d2_36) rfl k) ?_
          refine own_f s₁ (mkF m 39 #[.val (.int p1)] [(.int (102 : Int32)), (.int p1)]) (fun t k => XT.bipushV X0.here hx rfl (102 : Int32) (hb hby d2_37) (by decide) k) ?_
          by_cases hc5 : p1 = (102 : Int32)
          · skip
            refine own_f s₁ (mkF m 42 #[.val (.int p1)] []) (fun t k => XS.icmpNo X0.here hx rfl (hb hby d2_39) rfl (XT.ii_ne_f hc5) k) ?_
            refine own_f s₁ (mkF m 44 #[.val (.int p1)] [(.int (12 : Int32))]) (fun t k => XT.bipushV X0.here hx rfl (12 : Int32) (hb hby d2_42) (by decide) k) ?_
            obtain ⟨fs, hr, hrun, hended, hW, hsame⟩ := X0.leave (v := some (.int (12 : Int32))) (fun h => by rw [Bd.returns] at h; cases h)
            refine ⟨_, _, retI X0 hx Bd.returns (hb hby d2_44) hr, hrun, hended, _, _, rfl, ?_, ⟨_, rfl⟩, hW, hsame.mono (by decide) (by decide)⟩
            show Q2 Z p1 h0 n0 _ s₁.heap _
            rw [e0]
            exact ⟨by rw [hc5] <;> rfl, N0, rfl⟩
          · skip
            refine own_f s₁ (mkF m 45 #[.val (.int p1)] []) (fun t k => XS.icmpYes X0.here hx rfl (pc0 := 39) (pc' := 45) rfl (hb hby d2_39) rfl (XT.ii_ne_t hc5) (by decide) (by decide) k) ?_
            refine own_f s₁ (mkF m 46 #[.val (.int p1)] [(.int p1)]) (fun t k => XS.iloadN X0.here hx rfl (hb hby d2_45) rfl k) ?_
            refine own_f s₁ (mkF m 48 #[.val (.int p1)] [(.int (110 : Int32)), (.int p1)]) (fun t k => XT.bipushV X0.here hx rfl (110 : Int32) (hb hby d2_46) (by decide) k) ?_
            by_cases hc6 : p1 = (110 : Int32)
            · skip
              refine own_f s₁ (mkF m 51 #[.val (.int p1)] []) (fun t k => XS.icmpNo X0.here hx rfl (hb hby d2_48) rfl (XT.ii_ne_f hc6) k) ?_
              refine own_f s₁ (mkF m 53 #[.val (.int p1)] [(.int (10 : Int32))]) (fun t k => XT.bipushV X0.here hx rfl (10 : Int32) (hb hby d2_51) (by decide) k) ?_
              obtain ⟨fs, hr, hrun, hended, hW, hsame⟩ := X0.leave (v := some (.int (10 : Int32))) (fun h => by rw [Bd.returns] at h; cases h)
              refine ⟨_, _, retI X0 hx Bd.returns (hb hby d2_53) hr, hrun, hended, _, _, rfl, ?_, ⟨_, rfl⟩, hW, hsame.mono (by decide) (by decide)⟩
              show Q2 Z p1 h0 n0 _ s₁.heap _
              rw [e0]
              exact ⟨by rw [hc6] <;> rfl, N0, rfl⟩
            · skip
              refine own_f s₁ (mkF m 54 #[.val (.int p1)] []) (fun t k => XS.icmpYes X0.here hx rfl (pc0 := 48) (pc' := 54) rfl (hb hby d2_48) rfl (XT.ii_ne_t hc6) (by decide) (by decide) k) ?_
              refine own_f s₁ (mkF m 55 #[.val (.int p1)] [(.int p1)]) (fun t k => XS.iloadN X0.here hx rfl (hb hby d2_54) rfl k) ?_
              refine own_f s₁ (mkF m 57 #[.val (.int p1)] [(.int (114 : Int32)), (.int p1)]) (fun t k => XT.bipushV X0.here hx rfl (114 : Int32) (hb hby d2_55) (by decide) k) ?_
              by_cases hc7 : p1 = (114 : Int32)
              · skip
                refine own_f s₁ (mkF m 60 #[.val (.int p1)] []) (fun t k => XS.icmpNo X0.here hx rfl (hb hby d2_57) rfl (XT.ii_ne_f hc7) k) ?_
                refine own_f s₁ (mkF m 62 #[.val (.int p1)] [(.int (13 : Int32))]) (fun t k => XT.bipushV X0.here hx rfl (13 : Int32) (hb hby d2_60) (by decide) k) ?_
                obtain ⟨fs, hr, hrun, hended, hW, hsame⟩ := X0.leave (v := some (.int (13 : Int32))) (fun h => by rw [Bd.returns] at h; cases h)
                refine ⟨_, _, retI X0 hx Bd.returns (hb hby d2_62) hr, hrun, hended, _, _, rfl, ?_, ⟨_, rfl⟩, hW, hsame.mono (by decide) (by decide)⟩
                show Q2 Z p1 h0 n0 _ s₁.heap _
                rw [e0]
                exact ⟨by rw [hc7] <;> rfl, N0, rfl⟩
              · skip
                refine own_f s₁ (mkF m 63 #[.val (.int p1)] []) (fun t k => XS.icmpYes X0.here hx rfl (pc0 := 57) (pc' := 63) rfl (hb hby d2_57) rfl (XT.ii_ne_t hc7) (by decide) (by decide) k) ?_
                refine own_f s₁ (mkF m 64 #[.val (.int p1)] [(.int p1)]) (fun t k => XS.iloadN X0.here hx rfl (hb hby d2_63) rfl k) ?_
                refine own_f s₁ (mkF m 66 #[.val (.int p1)] [(.int (116 : Int32)), (.int p1)]) (fun t k => XT.bipushV X0.here hx rfl (116 : Int32) (hb hby d2_64) (by decide) k) ?_
                by_cases hc8 : p1 = (116 : Int32)
                · skip
                  refine own_f s₁ (mkF m 69 #[.val (.int p1)] []) (fun t k => XS.icmpNo X0.here hx rfl (hb hby d2_66) rfl (XT.ii_ne_f hc8) k) ?_
                  refine own_f s₁ (mkF m 71 #[.val (.int p1)] [(.int (9 : Int32))]) (fun t k => XT.bipushV X0.here hx rfl (9 : Int32) (hb hby d2_69) (by decide) k) ?_
                  obtain ⟨fs, hr, hrun, hended, hW, hsame⟩ := X0.leave (v := some (.int (9 : Int32))) (fun h => by rw [Bd.returns] at h; cases h)
                  refine ⟨_, _, retI X0 hx Bd.returns (hb hby d2_71) hr, hrun, hended, _, _, rfl, ?_, ⟨_, rfl⟩, hW, hsame.mono (by decide) (by decide)⟩
                  show Q2 Z p1 h0 n0 _ s₁.heap _
                  rw [e0]
                  exact ⟨by rw [hc8] <;> rfl, N0, rfl⟩
                · skip
                  refine own_f s₁ (mkF m 72 #[.val (.int p1)] []) (fun t k => XS.icmpYes X0.here hx rfl (pc0 := 66) (pc' := 72) rfl (hb hby d2_66) rfl (XT.ii_ne_t hc8) (by decide) (by decide) k) ?_
                  refine own_f s₁ (mkF m 73 #[.val (.int p1)] [(.int (-1 : Int32))]) (fun t k => XT.iconstV X0.here hx rfl (-1 : Int32) (hb hby d2_72) (by decide) k) ?_
                  obtain ⟨fs, hr, hrun, hended, hW, hsame⟩ := X0.leave (v := some (.int (-1 : Int32))) (fun h => by rw [Bd.returns] at h; cases h)
                  refine ⟨_, _, retI X0 hx Bd.returns (hb hby d2_73) hr, hrun, hended, _, _, rfl, ?_, ⟨_, rfl⟩, hW, hsame.mono (by decide) (by decide)⟩
                  show Q2 Z p1 h0 n0 _ s₁.heap _
                  rw [e0]
                  exact ⟨by rw [own_ex, if_neg hc1, if_neg hc2, if_neg hc3, if_neg hc4, if_neg hc5, if_neg hc6, if_neg hc7, if_neg hc8], N0, rfl⟩
theorem pn_0 : plainName "com/example/modelwright/modelwright/model/SourceParserSingleEscapePinLaw" = true := by first | (simp [plainName, overriddenIn]; done) | decide +kernel
theorem ef_0 (m : MethodId) (x0 : Int32) : entryFrame m #[(.int x0)] maxLocals = mkF m 0 #[.val (.int x0), .unset, .unset] [] := by first | (simp [entryFrame, mkF, argsToLocals, Value.category, maxLocals]; done) | rfl
def Q0 (Z : State) (p1 : Int32) (h0 : Heap) (n0 : Nat) (v : Option Value) (h : Heap) (L : List Loc) : Prop := v = some (.int 1) ∧ Fr n0 L
set_option maxRecDepth 65536 in
set_option maxHeartbeats 40000000 in
theorem rm0 (l : Launch) (Z : State) (a0 : Array Value) (hw : ∀ d ∈ tables_1, d.before a0 Z = true) (ws : List Jvm.Cond) (p1 : Int32) (h0 : Heap) (n0 : Nat) (Z0 : n0 ≤ h0.size) :
    MetFree l x (head1 (Jvm.Cond.code x code maxLocals ret :: ws) room_1) (fun a U => a = #[(.int p1)] ∧ Z.Warmed39 U.vm ∧ U.heap = h0) (fun _ _ _ _ _ => True) (fun _ U o U' => ∃ v L, o = .returned v ∧ Q0 Z p1 h0 n0 v U'.heap L ∧ FrameEnd U o U' L room_1.cells room_1.slots) := by
  refine MetFree.of_bodySF (plainFor_of_name pn_0) hisR ?_
  intro p e s m args below meth c s₁ Bd hml0 hP hK
  obtain ⟨rfl, hZ, hh⟩ := hP
  have hx := Bd.exec
  have hby := Bd.bytes
  have hml : c.maxLocals = 3 := hml0
  have hown : s.vm.findClass "com/example/modelwright/modelwright/model/SourceParserSingleEscapePinLaw" = some m.cls := findClass_of_methodNamed Bd.named
  have hnm := (name_of_methodNamed Bd.named Bd.method).1
  have X0 : Stand p l e room_1 s m #[(.int p1)] below meth c s₁ [] 0 0 := Stand.of_body Bd
  have e0 : s₁.heap = h0 := by rw [← hh, Bd.state]; rfl
  have N0 := Fr.nil n0
  show own_R p.tables e below (own_P s (Q0 Z p1 h0 n0) room_1.cells room_1.slots) (s₁.setTop (entryFrame m #[(.int p1)] maxLocals))
  refine own_f s₁ (mkF m 0 #[.val (.int p1), .unset, .unset] []) (fun t k => castTop (ef_0 m p1) k) ?_
  refine own_f s₁ (mkF m 1 #[.val (.int p1), .unset, .unset] [(.int p1)]) (fun t k => XS.iloadN X0.here hx rfl (hb hby at_0) rfl k) ?_
  refine own_f s₁ (mkF m 2 #[.val (.int p1), .unset, .unset] [(.int (p1.toUInt32.toUInt16.toUInt32.toInt32))]) (fun t k => XS.i2c X0.here hx rfl (hb hby at_1) rfl k) ?_
  refine own_f s₁ (mkF m 3 #[.val (.int p1), .val (.int (p1.toUInt32.toUInt16.toUInt32.toInt32)), .unset] []) (fun t k => XS.istoreN X0.here hx rfl (hb hby at_2) rfl (l' := #[.val (.int p1), .val (.int (p1.toUInt32.toUInt16.toUInt32.toInt32)), .unset]) rfl k) ?_
  refine own_f s₁ (mkF m 4 #[.val (.int p1), .val (.int (p1.toUInt32.toUInt16.toUInt32.toInt32)), .unset] [(.int p1)]) (fun t k => XS.iloadN X0.here hx rfl (hb hby at_3) rfl k) ?_
  refine own_f s₁ (mkF m 6 #[.val (.int p1), .val (.int (p1.toUInt32.toUInt16.toUInt32.toInt32)), .unset] [(.int (65535 : Int32)), (.int p1)]) (fun t k => X0.ldcI hx hown (mvT hZ (own_w hw 0 rfl)) rfl (hb hby at_4) k) ?_
  refine own_f s₁ (mkF m 7 #[.val (.int p1), .val (.int (p1.toUInt32.toUInt16.toUInt32.toInt32)), .unset] [(.int (p1 &&& (65535 : Int32)))]) (fun t k => XS.iand X0.here hx rfl (hb hby at_6) rfl k) ?_
  refine own_f s₁ (mkF m 8 #[.val (.int p1), .val (.int (p1.toUInt32.toUInt16.toUInt32.toInt32)), .val (.int (p1 &&& (65535 : Int32)))] []) (fun t k => XS.istoreN X0.here hx rfl (hb hby at_7) rfl (l' := #[.val (.int p1), .val (.int (p1.toUInt32.toUInt16.toUInt32.toInt32)), .val (.int (p1 &&& (65535 : Int32)))]) rfl k) ?_
  refine own_f s₁ (mkF m 9 #[.val (.int p1), .val (.int (p1.toUInt32.toUInt16.toUInt32.toInt32)), .val (.int (p1 &&& (65535 : Int32)))] [(.int (p1.toUInt32.toUInt16.toUInt32.toInt32))]) (fun t k => XS.iloadN X0.here hx rfl (hb hby at_8) rfl k) ?_
  obtain ⟨_, _, ⟨T1, Lq1, kq_1, nq_1⟩, -, X1, ⟨Lc1, hQ1, lq1, yq1, zq1⟩, st1⟩ := Jvm.LawKit.callS X0 hx (y := (⟨"com/example/modelwright/modelwright/model/SourceParser", "singleEscape", "(C)I"⟩ : MethodName)) hown (mvT hZ (own_w hw 1 rfl)) (mvT hZ (own_w hw 2 rfl)) (mvT hZ (own_w hw 3 rfl)) (mvT hZ (own_w hw 4 rfl)) (by decide) (backOf (W := 0) (rm1 l Z a0 hw [] (p1.toUInt32.toUInt16.toUInt32.toInt32) h0 n0 Z0 ) hZ (own_w hw 4 rfl) (own_w hw 3 rfl) (by decide) (by decide)) (g := (mkF m 9 #[.val (.int p1), .val (.int (p1.toUInt32.toUInt16.toUInt32.toInt32)), .val (.int (p1 &&& (65535 : Int32)))] [(.int (p1.toUInt32.toUInt16.toUInt32.toInt32))])) rfl (by rw [hml]; rfl) (argsL := [(.int (p1.toUInt32.toUInt16.toUInt32.toInt32))]) (rest := []) (lenOf pd__C_I rfl) rfl (by show 2 * 0 + _ ≤ _; exact Nat.le_of_eq rfl) (hb hby at_9) (fun _ _ => ⟨rfl, e0, (by decide : 0 + 0 ≤ _), (by decide : 0 + 0 ≤ _)⟩)
  dsimp only [Pt.U, Pt.locs, Pt.cells, Pt.slots] at X1 lq1 yq1 zq1 st1 hQ1
  subst lq1 yq1 zq1
  obtain ⟨h1, e1⟩ : ∃ z, T1.heap = z := ⟨_, rfl⟩
  rw [e1] at hQ1
  unfold Q1 at hQ1
  obtain ⟨rfl, Nq1, qh1⟩ := hQ1
  have N1 := Fr.app N0 Nq1
  rw [qh1] at e1
  refine own_f T1 (mkF m 12 #[.val (.int p1), .val (.int (p1.toUInt32.toUInt16.toUInt32.toInt32)), .val (.int (p1 &&& (65535 : Int32)))] [(.int (own_se (p1.toUInt32.toUInt16.toUInt32.toInt32)))]) st1 ?_
  refine own_f T1 (mkF m 13 #[.val (.int p1), .val (.int (p1.toUInt32.toUInt16.toUInt32.toInt32)), .val (.int (p1 &&& (65535 : Int32)))] [(.int (p1 &&& (65535 : Int32))), (.int (own_se (p1.toUInt32.toUInt16.toUInt32.toInt32)))]) (fun t k => XS.iloadN X1.here hx rfl (hb hby at_12) rfl k) ?_
  obtain ⟨_, _, ⟨T2, Lq2, kq_2, nq_2⟩, -, X2, ⟨Lc2, hQ2, lq2, yq2, zq2⟩, st2⟩ := Jvm.LawKit.callS X1 hx (y := (⟨"com/example/modelwright/modelwright/model/SourceParserSingleEscapePinLaw", "expected", "(I)I"⟩ : MethodName)) hown (mvT hZ (own_w hw 5 rfl)) (mvT hZ (own_w hw 6 rfl)) (mvT hZ (own_w hw 7 rfl)) (mvT hZ (own_w hw 8 rfl)) (by decide) (backOf (W := 1) (rm2 l Z a0 hw [] (p1 &&& (65535 : Int32)) h0 n0 Z0 ) hZ (own_w hw 8 rfl) (own_w hw 7 rfl) (by decide) (by decide)) (g := (mkF m 13 #[.val (.int p1), .val (.int (p1.toUInt32.toUInt16.toUInt32.toInt32)), .val (.int (p1 &&& (65535 : Int32)))] [(.int (p1 &&& (65535 : Int32))), (.int (own_se (p1.toUInt32.toUInt16.toUInt32.toInt32)))])) rfl (by rw [hml]; rfl) (argsL := [(.int (p1 &&& (65535 : Int32)))]) (rest := [(.int (own_se (p1.toUInt32.toUInt16.toUInt32.toInt32)))]) (lenOf pd__I_I rfl) rfl (by show 2 * 0 + _ ≤ _; exact Nat.le_of_eq rfl) (hb hby at_13) (fun _ _ => ⟨rfl, e1, (by decide : 0 + 0 + 0 ≤ _), (by decide : 0 + 0 + 0 ≤ _)⟩)
  dsimp only [Pt.U, Pt.locs, Pt.cells, Pt.slots] at X2 lq2 yq2 zq2 st2 hQ2
  subst lq2 yq2 zq2
  obtain ⟨h2, e2⟩ : ∃ z, T2.heap = z := ⟨_, rfl⟩
  rw [e2] at hQ2
  unfold Q2 at hQ2
  obtain ⟨rfl, Nq2, qh2⟩ := hQ2
  have N2 := Fr.app N1 Nq2
  rw [qh2] at e2
  refine own_f T2 (mkF m 16 #[.val (.int p1), .val (.int (p1.toUInt32.toUInt16.toUInt32.toInt32)), .val (.int (p1 &&& (65535 : Int32)))] [(.int (own_ex (p1 &&& (65535 : Int32)))), (.int (own_se (p1.toUInt32.toUInt16.toUInt32.toInt32)))]) st2 ?_
  have hc3 : (own_se (p1.toUInt32.toUInt16.toUInt32.toInt32)) = (own_ex (p1 &&& (65535 : Int32))) := own_law p1
  refine own_f T2 (mkF m 19 #[.val (.int p1), .val (.int (p1.toUInt32.toUInt16.toUInt32.toInt32)), .val (.int (p1 &&& (65535 : Int32)))] []) (fun t k => XS.icmpNo X2.here hx rfl (hb hby at_16) rfl (XT.ii_ne_f hc3) k) ?_
  refine own_f T2 (mkF m 20 #[.val (.int p1), .val (.int (p1.toUInt32.toUInt16.toUInt32.toInt32)), .val (.int (p1 &&& (65535 : Int32)))] [(.int (1 : Int32))]) (fun t k => XT.iconstV X2.here hx rfl (1 : Int32) (hb hby at_19) (by decide) k) ?_
  refine own_f T2 (mkF m 24 #[.val (.int p1), .val (.int (p1.toUInt32.toUInt16.toUInt32.toInt32)), .val (.int (p1 &&& (65535 : Int32)))] [(.int (1 : Int32))]) (fun t k => XS.goto X2.here hx rfl (pc0 := 20) (pc' := 24) rfl (hb hby at_20) (by decide) (by decide) k) ?_
  obtain ⟨fs, hr, hrun, hended, hW, hsame⟩ := X2.leave (v := some (.int (1 : Int32))) (fun h => by rw [Bd.returns] at h; cases h)
  refine ⟨_, _, retN X2 hx (t := .boolean) Bd.returns (by simp) (hb hby at_24) hr, hrun, hended, _, _, rfl, ?_, ⟨_, rfl⟩, hW, hsame.mono (by decide) (by decide)⟩
  show Q0 Z p1 h0 n0 _ T2.heap _
  rw [e2]
  exact ⟨rfl, N2⟩
set_option maxRecDepth 65536 in
set_option maxHeartbeats 40000000 in
theorem comes_1 {Post : Tables → Env → Array Value → State → Outcome → State → Prop} (hpost : ∀ tb e args s v u, (limb_1_1.after args s (.returned v) u = true ∧ limb_1_2.after args s (.returned v) u = true ∧ True) → FrameEnd s (.returned v) u (Jvm.fieldLocs frame_1_writes args s ++ Jvm.arrayLocs frame_1_arrays args s ++ Jvm.staticLocs frame_1_statics s) 0 0 → Post tb e args s (.returned v) u) :
    ArmFor flags0 classFile x code maxLocals ret World_1 tables_1 room_1 Calls_1 rest_1 Pre_1 Post := by
  intro l hfl _ _ p e ha hc hk s m args below hf hA hF happ hP
  obtain ⟨hcalls, hrest, hpre⟩ := hP
  obtain ⟨-, -, -, hnamed, -, -, -, hat⟩ := (Spec.applies_iff hf).mp happ
  obtain ⟨hg, hn⟩ := and_e (Cond.before_iff.mp (show (Jvm.Cond.and given_1 narrow_1).before args s = true from hpre))
  obtain ⟨g0, r0⟩ := and_e hg
  obtain ⟨w0, rfl⟩ : ∃ w0 : Value, args = #[w0] := by
    have hs : args.size = 1 := by simpa [Cond.value, given_1] using g0
    obtain ⟨L⟩ := args
    match L, hs with
    | [w0], _ => exact ⟨w0, rfl⟩
  have hw := fun d (hd : d ∈ tables_1) => atoms_spec (ws := Jvm.Cond.code x code maxLocals ret :: tables_1) hat d (List.mem_cons_of_mem _ hd)
  have hfit : Fit s := fun {y c} hc i hi => by
    obtain ⟨ha, rfl⟩ := Array.getElem?_eq_some_iff.mp hc
    have q := List.all_eq_true.mp ((Array.all_eq_true_iff_forall_mem.mp hF) _ (Array.getElem_mem ha)) i (List.mem_range.mpr hi)
    simpa [Array.getElem?_eq_getElem hi] using q
  obtain ⟨i0, ev0⟩ := is_v r0
  obtain rfl : w0 = (.int i0) := Option.some.inj ev0
  obtain ⟨n, o, h1, h2, h3, _, L, rfl, ⟨rfl, N⟩, hq⟩ := rm0 l s _ hw tables_1 i0 s.heap s.heap.size (Nat.le_refl _)  p e ha hc hk s m _ below hf ((Spec.applies_iff_loose hf).mp happ).1 ⟨rfl, State.Warmed39.refl s, rfl⟩ trivial
  refine ⟨n, _, h1, h2, h3, hpost _ _ _ _ _ _ ⟨Cond.after_iff.mpr rfl, Cond.after_iff.mpr (eq_i res_at (Term.int_eval (1)) rfl), trivial⟩ ⟨hq.1, hq.2.1, (hq.2.2.sift fun y hy => Or.inr (N y hy)).mono (by decide) (by decide)⟩⟩
theorem main_1_1 : Claimed_1_1 := comes_1 fun _ _ _ _ _ _ h hF => ⟨h.1, hF⟩
theorem main_1_2 : Claimed_1_2 := comes_1 fun _ _ _ _ _ _ h hF => ⟨h.2.1, hF⟩
end Jvm.Pilot.@@N@@
namespace Jvm.Pilot.@@N@@
open Jvm Jvm.ClassFile Sem Op Lib Jvm.Free Jvm.Stand Jvm.Pilot.@@N@@.Jvm.D
/-! MADE BY PROGRAM (witnessworld.py) out of the Statement's table words and the real class files: 9 classes; the members and pool entries that the words name. The judged class is class 1, her method 2. -/
namespace start1
open Jvm.ClassFile
def u (s : String) : CpInfo := .utf8 (stringToUtf16 s)
/-- a pool by its gaps: so many unusable entries, then the entry; so many at the end -/
def gap : Nat → List CpInfo → List CpInfo
  | 0, r => r
  | n + 1, r => .unusable :: gap n r
def poolList (es : List (Nat × CpInfo)) (last : Nat) : List CpInfo := es.foldr (fun e r => gap e.1 (e.2 :: r)) (gap last [])
def pool (es : List (Nat × CpInfo)) (last : Nat) : Array CpInfo := ⟨poolList es last⟩
def fileOf (pool : Array CpInfo) (this : Nat) (attrs : Array Attribute := #[]) (ms : Array MethodInfo := #[]) (fl : Nat := 33) (sup : Nat := 0) (ifs : Array Nat := #[]) (fds : Array FieldInfo := #[]) : ClassFile where
  minorVersion := 0
  majorVersion := 65
  constantPool := pool
  accessFlags := fl
  thisClass := this
  superClass := sup
  interfaces := ifs
  fields := fds
  methods := ms
  attributes := attrs
def plain (name : String) (sup : Option ClassId) : Class where
  name := name
  kind := .ordinary
  loader := none
  accessFlags := 33
  super := sup
  interfaces := #[]
  cf := none
  fields := #[]
  methods := #[]
  instanceTypes := #[]
  staticTypes := #[]
  resolved := #[]
  callSites := []
  init := .initialized
  statics := none
  mirror := none

def pool0 : Array CpInfo := pool [(5, u "<init>"), (0, u "()V"), (1, .class_ 10), (1, u "java/lang/Object")] 113

def k0m0 : Method := { name := "<init>", desc := "()V", sig := { parameters := [], returnType := none }, accessFlags := 1, code := none }
/-- java/lang/Object -/
def k0 : Class := { plain "java/lang/Object" none with
  accessFlags := 33
  interfaces := #[]
  cf := some (fileOf pool0 8 #[] #[{ accessFlags := 1, nameIndex := 5, descriptorIndex := 6, attributes := #[] }] 33 0 #[] #[])
  fields := #[]
  methods := #[k0m0]
  instanceTypes := #[]
  staticTypes := #[]
  resolved := Array.replicate 124 none
  statics := none }

def pool1 : Array CpInfo := pool [(2, .class_ 4), (1, u "java/lang/Object"), (0, u "<init>"), (0, u "()V"), (0, .integer 65535), (0, .methodref 9 10), (0, .class_ 11), (0, .nameAndType 12 13), (0, u "com/example/modelwright/modelwright/model/SourceParser"), (0, u "singleEscape"), (0, u "(C)I"), (0, .methodref 15 16), (0, .class_ 17), (0, .nameAndType 18 19), (0, u "com/example/modelwright/modelwright/model/SourceParserSingleEscapePinLaw"), (0, u "expected"), (0, u "(I)I"), (3, u "law"), (0, u "(I)Z")] 2

def k1m0 : Method := { name := "<init>", desc := "()V", sig := { parameters := [], returnType := none }, accessFlags := 2, code := none }
def k1c1 : Code := { maxStack := 2, maxLocals := 1, code := method_2_code, exceptionTable := #[], attributes := #[] }
def k1m1 : Method := { name := "expected", desc := "(I)I", sig := { parameters := [.int], returnType := some .int }, accessFlags := 10, code := some k1c1 }
def k1c2 : Code := { maxStack := 2, maxLocals := 3, code := code, exceptionTable := #[], attributes := #[] }
def k1m2 : Method := { name := "law", desc := "(I)Z", sig := { parameters := [.int], returnType := some .boolean }, accessFlags := 9, code := some k1c2 }
/-- com/example/modelwright/modelwright/model/SourceParserSingleEscapePinLaw -/
def k1 : Class := { plain "com/example/modelwright/modelwright/model/SourceParserSingleEscapePinLaw" (some 0) with
  accessFlags := 49
  interfaces := #[]
  cf := some (fileOf pool1 15 #[] #[{ accessFlags := 2, nameIndex := 5, descriptorIndex := 6, attributes := #[] }, { accessFlags := 10, nameIndex := 18, descriptorIndex := 19, attributes := #[] }, { accessFlags := 9, nameIndex := 23, descriptorIndex := 24, attributes := #[] }] 49 2 #[] #[])
  fields := #[]
  methods := #[k1m0, k1m1, k1m2]
  instanceTypes := #[]
  staticTypes := #[]
  resolved := Array.replicate 27 none
  statics := none }

def pool2 : Array CpInfo := pool [(2, .class_ 4), (1, u "java/lang/Object"), (3, .class_ 10), (1, u "com/example/modelwright/modelwright/model/SourceParser"), (0, u "line"), (0, u "I"), (5, u "escaped"), (0, u "Ljava/lang/StringBuilder;"), (4, u "shared"), (0, u "[Ljava/lang/String;"), (2, u "path"), (0, u "Ljava/lang/String;"), (2, u "text"), (2, u "pos"), (10, u "lineStart"), (2, u "lowSurrogatesOnLine"), (134, u "depth"), (31, u "sharedByText"), (0, u "Ljava/util/Map;"), (8, u "sharedCount"), (28, u "(C)I"), (8, u "singleEscape"), (29, .class_ 295), (0, u "com/example/modelwright/modelwright/model/SourceParser$1"), (15, u "MAX_DEPTH"), (2, u "MAX_NUMBER_LENGTH"), (1, u "UNICODE_ESCAPE_DIGITS"), (1, u "MAX_QUOTED_WORD"), (1, u "MAX_SHARED_LENGTH")] 51

def k2c0 : Code := { maxStack := 1, maxLocals := 1, code := prog_77_method_34_code, exceptionTable := #[], attributes := #[] }
def k2m0 : Method := { name := "singleEscape", desc := "(C)I", sig := { parameters := [.char], returnType := some .int }, accessFlags := 12, code := some k2c0 }
/-- com/example/modelwright/modelwright/model/SourceParser -/
def k2 : Class := { plain "com/example/modelwright/modelwright/model/SourceParser" (some 0) with
  accessFlags := 1057
  interfaces := #[]
  cf := some (fileOf pool2 8 #[.nestMembers #[294]] #[{ accessFlags := 12, nameIndex := 264, descriptorIndex := 255, attributes := #[] }] 1057 2 #[] #[{ accessFlags := 25, nameIndex := 311, descriptorIndex := 12, attributes := #[] }, { accessFlags := 25, nameIndex := 314, descriptorIndex := 12, attributes := #[] }, { accessFlags := 28, nameIndex := 316, descriptorIndex := 12, attributes := #[] }, { accessFlags := 26, nameIndex := 318, descriptorIndex := 12, attributes := #[] }, { accessFlags := 26, nameIndex := 320, descriptorIndex := 12, attributes := #[] }, { accessFlags := 20, nameIndex := 28, descriptorIndex := 29, attributes := #[] }, { accessFlags := 20, nameIndex := 32, descriptorIndex := 29, attributes := #[] }, { accessFlags := 4, nameIndex := 35, descriptorIndex := 12, attributes := #[] }, { accessFlags := 2, nameIndex := 11, descriptorIndex := 12, attributes := #[] }, { accessFlags := 2, nameIndex := 46, descriptorIndex := 12, attributes := #[] }, { accessFlags := 2, nameIndex := 49, descriptorIndex := 12, attributes := #[] }, { accessFlags := 2, nameIndex := 184, descriptorIndex := 12, attributes := #[] }, { accessFlags := 18, nameIndex := 18, descriptorIndex := 19, attributes := #[] }, { accessFlags := 2, nameIndex := 24, descriptorIndex := 25, attributes := #[] }, { accessFlags := 2, nameIndex := 226, descriptorIndex := 12, attributes := #[] }, { accessFlags := 2, nameIndex := 216, descriptorIndex := 217, attributes := #[] }])
  fields := #[{ name := "MAX_DEPTH", type := .int, accessFlags := 25, slot := 0, constantValue := 0 }, { name := "MAX_NUMBER_LENGTH", type := .int, accessFlags := 25, slot := 1, constantValue := 0 }, { name := "UNICODE_ESCAPE_DIGITS", type := .int, accessFlags := 28, slot := 2, constantValue := 0 }, { name := "MAX_QUOTED_WORD", type := .int, accessFlags := 26, slot := 3, constantValue := 0 }, { name := "MAX_SHARED_LENGTH", type := .int, accessFlags := 26, slot := 4, constantValue := 0 }, { name := "path", type := (.object "java/lang/String"), accessFlags := 20, slot := 0, constantValue := 0 }, { name := "text", type := (.object "java/lang/String"), accessFlags := 20, slot := 1, constantValue := 0 }, { name := "pos", type := .int, accessFlags := 4, slot := 2, constantValue := 0 }, { name := "line", type := .int, accessFlags := 2, slot := 3, constantValue := 0 }, { name := "lineStart", type := .int, accessFlags := 2, slot := 4, constantValue := 0 }, { name := "lowSurrogatesOnLine", type := .int, accessFlags := 2, slot := 5, constantValue := 0 }, { name := "depth", type := .int, accessFlags := 2, slot := 6, constantValue := 0 }, { name := "escaped", type := (.object "java/lang/StringBuilder"), accessFlags := 18, slot := 7, constantValue := 0 }, { name := "shared", type := (.array (.object "java/lang/String")), accessFlags := 2, slot := 8, constantValue := 0 }, { name := "sharedCount", type := .int, accessFlags := 2, slot := 9, constantValue := 0 }, { name := "sharedByText", type := (.object "java/util/Map"), accessFlags := 2, slot := 10, constantValue := 0 }]
  methods := #[k2m0]
  instanceTypes := #[(.object "java/lang/String"), (.object "java/lang/String"), .int, .int, .int, .int, .int, (.object "java/lang/StringBuilder"), (.array (.object "java/lang/String")), .int, (.object "java/util/Map")]
  staticTypes := #[.int, .int, .int, .int, .int]
  resolved := Array.replicate 372 none
  statics := none }

def pool3 : Array CpInfo := pool [(1, u "java/lang/Cloneable"), (0, .class_ 1), (0, u "java/lang/Object"), (0, .class_ 3)] 3

/-- java/lang/Cloneable -/
def k3 : Class := { plain "java/lang/Cloneable" (some 0) with
  accessFlags := 1537
  interfaces := #[]
  cf := some (fileOf pool3 2 #[] #[] 1537 4 #[] #[])
  fields := #[]
  methods := #[]
  instanceTypes := #[]
  staticTypes := #[]
  resolved := Array.replicate 8 none
  statics := none }

def pool4 : Array CpInfo := pool [(1, u "java/io/Serializable"), (0, .class_ 1), (0, u "java/lang/Object"), (0, .class_ 3)] 3

/-- java/io/Serializable -/
def k4 : Class := { plain "java/io/Serializable" (some 0) with
  accessFlags := 1537
  interfaces := #[]
  cf := some (fileOf pool4 2 #[] #[] 1537 4 #[] #[])
  fields := #[]
  methods := #[]
  instanceTypes := #[]
  staticTypes := #[]
  resolved := Array.replicate 8 none
  statics := none }

/-- the primitive byte -/
def k5 : Class := { plain "byte" none with kind := .primitive 'B', accessFlags := 0x411 }
/-- [B -/
def k6 : Class := { plain "[B" (some 0) with kind := .array 5 .byte, interfaces := #[3, 4], accessFlags := 1041 }

/-- the primitive int -/
def k7 : Class := { plain "int" none with kind := .primitive 'I', accessFlags := 0x411 }
/-- [I -/
def k8 : Class := { plain "[I" (some 0) with kind := .array 7 .int, interfaces := #[3, 4], accessFlags := 1041 }

def heap : Heap := #[]
def classes : Array Class := #[k0, k1, k2, k3, k4, k5, k6, k7, k8]
def interned : List (Array UInt16 × Addr) := []
def slotsUsed : Nat := 0
def theMethod : MethodId := ⟨1, 2⟩
def args0 : Array Value := #[.int 98]
def aboutOver (below : List Frame) : State where
  vm := { classes := classes, interned := interned.toArray }
  heap := heap
  slotsUsed := slotsUsed
  threads := #[{ frames := .invoking theMethod args0 :: below }]
def below0 : List Frame := [.native { method := ⟨0, 0⟩, args := #[] }]
def about1 : State := aboutOver below0
def p0 : Program := .bare "" "" ""
def e0 : Env := launch0.env 0 0 0
theorem w_frames : about1.frames = Frame.invoking theMethod args0 :: below0 := rfl
set_option maxRecDepth 65536 in
theorem w_args : argsFit about1.vm theMethod args0 = true := by decide +kernel
set_option maxRecDepth 65536 in
theorem w_heap : heapFits about1 = true := by decide +kernel
set_option maxRecDepth 65536 in
theorem w_runnable : about1.curStatus? = some .runnable := by decide +kernel
set_option maxRecDepth 65536 in
theorem w_alone : about1.alone = true := by decide +kernel
set_option maxRecDepth 65536 in
theorem w_named : about1.methodNamed? x = some theMethod := by decide +kernel
set_option maxRecDepth 65536 in
theorem w_hears : about1.hears theMethod below0 = true := by decide +kernel
set_option maxRecDepth 65536 in
theorem w_ripe : about1.ripe theMethod args0 below0 = true := by decide +kernel
theorem w_running : about1.status = .running := rfl
set_option maxRecDepth 65536 in
theorem w_room : about1.hasRoom e0.platform room_1 = true :=
  launch0.hasRoom_least _ room_1 (by decide +kernel) (by decide +kernel) (by decide +kernel) (by decide +kernel) (by decide +kernel) (by decide +kernel)
theorem allAtoms_all (ts : List Jvm.Cond) (a : Array Jvm.Value) (st : Jvm.State) : (allAtoms ts).before a st = ts.all (fun c => c.before a st) := by
  induction ts with
  | nil => rfl
  | cons c t ih =>
    show (Jvm.Cond.and c (allAtoms t)).before a st = _
    rw [Jvm.Cond.before_and, ih, List.all_cons]
def words1 : List Jvm.Cond := Jvm.Cond.code x code maxLocals ret :: tables_1
/-- a 'code' word, met by the world's own term for the bytes: nothing is compared byte by byte -/
theorem code_word {y : MethodName} {bytes : ByteArray} {mx : Nat} {rt : Option FieldType} {a : Array Value} {s : State} {m : MethodId} {meth : Method} {c : Code} (h1 : s.methodNamed? y = some m) (h2 : s.vm.method? m = some meth) (h3 : meth.code = some c) (h4 : c.code = bytes)
    (h5 : (c.maxLocals == mx && c.exceptionTable.isEmpty && decide (c.maxStack ≤ mostOperands) && decide (meth.sig.returnType = rt) && !meth.locks && decide (parseMethodDescriptor y.desc = some meth.sig)) = true) : (Jvm.Cond.code y bytes mx rt).before a s = true := by
  simp only [Bool.and_eq_true, beq_iff_eq, Bool.not_eq_true', decide_eq_true_eq] at h5
  obtain ⟨⟨⟨⟨⟨g1, g2⟩, g3⟩, g4⟩, g5⟩, g6⟩ := h5
  simp [Cond.before, Cond.holds, Cond.value, h1, h2, h3, h4, g1, g2, g3, g4, g5, g6]
def isCode : Jvm.Cond → Bool
  | .code _ _ _ _ => true
  | _ => false
theorem all_split {L : List Jvm.Cond} {P : Jvm.Cond → Bool} (h1 : L.all (fun c => isCode c || P c) = true) (h2 : ∀ c ∈ L.filter isCode, P c = true) : L.all P = true := by
  refine List.all_eq_true.mpr fun c hc => ?_
  have h := List.all_eq_true.mp h1 c hc
  rcases Bool.eq_false_or_eq_true (isCode c) with hi | hi
  · exact h2 c (List.mem_filter.mpr ⟨hc, hi⟩)
  · simpa [hi] using h
set_option maxRecDepth 65536 in
theorem w_c0 : (Jvm.Cond.code x code maxLocals ret).before args0 about1 = true := code_word (m := ⟨1, 2⟩) (meth := k1m2) (c := k1c2) (by decide +kernel) rfl rfl rfl (by decide +kernel)
set_option maxRecDepth 65536 in
theorem w_c1 : (Jvm.Cond.code ({ cls := "com/example/modelwright/modelwright/model/SourceParser", name := "singleEscape", desc := "(C)I" } : Jvm.MethodName) prog_77_method_34_code (1 : Nat) (Option.some Jvm.ClassFile.FieldType.int)).before args0 about1 = true := code_word (m := ⟨2, 0⟩) (meth := k2m0) (c := k2c0) (by decide +kernel) rfl rfl rfl (by decide +kernel)
set_option maxRecDepth 65536 in
theorem w_c2 : (Jvm.Cond.code ({ cls := "com/example/modelwright/modelwright/model/SourceParserSingleEscapePinLaw", name := "expected", desc := "(I)I" } : Jvm.MethodName) method_2_code (1 : Nat) (Option.some Jvm.ClassFile.FieldType.int)).before args0 about1 = true := code_word (m := ⟨1, 1⟩) (meth := k1m1) (c := k1c1) (by decide +kernel) rfl rfl rfl (by decide +kernel)
def codes1 : List Jvm.Cond := [Jvm.Cond.code x code maxLocals ret, Jvm.Cond.code ({ cls := "com/example/modelwright/modelwright/model/SourceParser", name := "singleEscape", desc := "(C)I" } : Jvm.MethodName) prog_77_method_34_code (1 : Nat) (Option.some Jvm.ClassFile.FieldType.int), Jvm.Cond.code ({ cls := "com/example/modelwright/modelwright/model/SourceParserSingleEscapePinLaw", name := "expected", desc := "(I)I" } : Jvm.MethodName) method_2_code (1 : Nat) (Option.some Jvm.ClassFile.FieldType.int)]
set_option maxRecDepth 65536 in
theorem codes_eq : words1.filter isCode = codes1 := rfl
theorem w_codes : ∀ c ∈ words1.filter isCode, c.before args0 about1 = true := by
  rw [codes_eq]
  intro c hc
  simp only [codes1, List.mem_cons, List.not_mem_nil, or_false] at hc
  rcases hc with rfl | rfl | rfl
  · exact w_c0
  · exact w_c1
  · exact w_c2
set_option maxRecDepth 65536 in
theorem w_t1 : words1.all (fun c => isCode c || c.before args0 about1) = true := by decide +kernel
theorem w_tables : (allAtoms (Jvm.Cond.code x code maxLocals ret :: tables_1)).before args0 about1 = true := by
  rw [allAtoms_all]
  show words1.all (fun c => c.before args0 about1) = true
  refine all_split ?_ w_codes
  rw [w_t1]
set_option maxRecDepth 65536 in
theorem w_case : (Jvm.Cond.and given_1 narrow_1).before args0 about1 = true := by decide +kernel
theorem w_applies : (headSpec (Jvm.Cond.code x code maxLocals ret :: tables_1) room_1).applies x e0.platform about1 = true :=
  (Spec.applies_iff w_frames).mpr ⟨w_running, w_runnable, w_alone, w_named, w_hears, w_ripe, w_room, w_tables⟩
theorem atStart : AtStart classFile x code maxLocals ret World_1 tables_1 room_1 Calls_1 rest_1 Pre_1 launch0 p0 e0 about1 theMethod args0 below0 :=
  ⟨lists_1, trivial, launch0.admits_env _ _ _, launch0.least_env, fairChoices_fair.cas, fairChoices_fair.clock, w_frames, w_args, w_heap, w_applies, trivial, trivial, w_case⟩
end start1
theorem witness_1 : WitnessClaimed_1 := ⟨start1.p0, start1.e0, start1.about1, start1.theMethod, start1.args0, start1.below0, start1.atStart⟩
end Jvm.Pilot.@@N@@
