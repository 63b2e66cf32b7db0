import JvmDerived
import JvmDerived.Pilot.@@N@@Statement
import JvmDerived.Pilot.@@N@@Code
set_option linter.unusedVariables false
set_option linter.unusedSimpArgs false
namespace Jvm.RoadKit
open Sem ClassFile Op Lib Jvm.Stand Jvm.Free Jvm.LawKit
section New
variable {p : Program} {l : Launch} {e : Env} {R : Room} {s : State} {m : MethodId} {args : Array Value} {below : List Frame} {meth : Method} {c : Code} {T : State} {locs : List Loc} {cells slots : Nat}
theorem retI (X : Stand p l e R s m args below meth c T locs cells slots) (hx : p.tables.exec = Jvm.exec) {pc : Nat} {Ls : Array Slot} {z : Int32} {rest : List Value} (hret : meth.sig.returnType = some .int) (hd : decode c.code pc = .ok (.ireturn, 1)) {fs : List Frame}
    (hl : ∀ (f : JFrame) (acts : List Action), f.method = m → f.locked = none → f.entered = [] → (doReturn e (T.setTop f) acts (some (.int z))).1 = T.setFrames fs) : Steps p.tables e below (T.setTop (mkF m pc Ls (.int z :: rest))) (T.setFrames fs) := by
  have hm' : T.vm.method? m = some meth := X.method'
  have hn : narrow .int (.int z) = .int z := rfl
  show Steps p.tables e below (T.setTop { method := m, pc := pc, locals := Ls, stack := _ :: rest, locked := none }) _
  jvm_step X.here [X.here.top, hx, hd, hm', hret, hn]
  first | (intro acts; rw [hl _ acts rfl rfl rfl]) | rw [hl _ _ rfl rfl rfl]
  exact Steps.refl _
/-- a boolean, byte, char or short that is one already -/
theorem own_retB (X : Stand p l e R s m args below meth c T locs cells slots) (hx : p.tables.exec = Jvm.exec) {pc : Nat} {Ls : Array Slot} {z : Int32} {t : FieldType} {rest : List Value} (hret : meth.sig.returnType = some t) (ht : t = .boolean ∨ t = .byte ∨ t = .char ∨ t = .short) (hz : nar t z = z)
    (hd : decode c.code pc = .ok (.ireturn, 1)) {fs : List Frame} (hl : ∀ (f : JFrame) (acts : List Action), f.method = m → f.locked = none → f.entered = [] → (doReturn e (T.setTop f) acts (some (.int z))).1 = T.setFrames fs) :
    Steps p.tables e below (T.setTop (mkF m pc Ls (.int z :: rest))) (T.setFrames fs) := retN X hx hret ht hd (by rw [hz]; exact hl)
theorem own_retL (X : Stand p l e R s m args below meth c T locs cells slots) (hx : p.tables.exec = Jvm.exec) {pc : Nat} {Ls : Array Slot} {z : Int64} {rest : List Value} (hret : meth.sig.returnType = some .long) (hd : decode c.code pc = .ok (.lreturn, 1)) {fs : List Frame}
    (hl : ∀ (f : JFrame) (acts : List Action), f.method = m → f.locked = none → f.entered = [] → (doReturn e (T.setTop f) acts (some (.long z))).1 = T.setFrames fs) : Steps p.tables e below (T.setTop (mkF m pc Ls (.long z :: rest))) (T.setFrames fs) :=
  retOut X hx hret rfl (Or.inr (Or.inl ⟨rfl, rfl, z, rfl⟩)) hd hl
end New
end Jvm.RoadKit
namespace Jvm.Pilot.@@N@@
open Jvm Jvm.ClassFile Sem Op Lib Jvm.Free Jvm.Stand Jvm.LawKit Jvm.RoadKit Bundle Jvm.Pilot.@@N@@.Jvm.D
theorem own_w {a0 : Array Value} {Z : State} (hw : ∀ d ∈ tables_1, d.before a0 Z = true) (i : Nat) {d : Jvm.Cond} (h : tables_1[i]? = some d) : d.before a0 Z = true := hw _ (List.mem_of_getElem? h)
/-- from A the walk comes to an end that P takes -/
abbrev own_R (tb : Tables) (e : Env) (below : List Frame) (P : State → Outcome → Prop) (A : State) : Prop := ∃ t o, Steps tb e below A t ∧ t.status = .running ∧ Ended t below o ∧ P t o
abbrev own_P (s : State) (Q : Option Value → Heap → List Loc → Prop) (k n : Nat) (t : State) (o : Outcome) : Prop := ∃ v L, o = .returned v ∧ Q v t.heap L ∧ FrameEnd s o t L k n
abbrev own_PW (s : State) (Q : Option Value → Heap → List Loc → Prop) (k n : Nat) (t : State) (o : Outcome) : Prop := ∃ v L, o = .returned v ∧ Q v t.heap L ∧ ReturnedEndW s o t L k n
theorem own_step {tb : Tables} {e : Env} {below : List Frame} {P : State → Outcome → Prop} {A A' : State} (st : ∀ t, Steps tb e below A' t → Steps tb e below A t) (h : own_R tb e below P A') : own_R tb e below P A := by
  obtain ⟨t, o, h1, h2⟩ := h
  exact ⟨t, o, st t h1, h2⟩
theorem own_go {tb : Tables} {e : Env} {below : List Frame} {P : State → Outcome → Prop} {A A' : State} (st : Steps tb e below A A') (h : own_R tb e below P A') : own_R tb e below P A := own_step (fun _ k => st.trans k) h
theorem own_f {tb : Tables} {e : Env} {below : List Frame} {P : State → Outcome → Prop} {A : State} (T : State) (g : JFrame) (st : ∀ t, Steps tb e below (T.setTop g) t → Steps tb e below A t) (h : own_R tb e below P (T.setTop g)) : own_R tb e below P A := own_step st h
theorem own_g {tb : Tables} {e : Env} {below : List Frame} {P : State → Outcome → Prop} {A : State} (T : State) (g : JFrame) (st : Steps tb e below A (T.setTop g)) (h : own_R tb e below P (T.setTop g)) : own_R tb e below P A := own_go st h
theorem own_lsw {tb : Tables} [Ours tb] {e : Env} {below : List Frame} {T target : State} {m : MethodId} {c : Code} {g : JFrame} (h : At T m c below) (hx : tb.exec = Jvm.exec) (hg : g.method = m) {df : Int} {ps : Array (Int × Int)} {len : Nat} {o : Int} {pc0 pc' : Nat} (hpc : g.pc = pc0) (hd : decode c.code g.pc = .ok (.lookupswitch df ps, len)) {i : Int32} {rest : List Value} (hs : g.stack = .int i :: rest)
    (hord : (ps.toList.zip (ps.toList.drop 1)).all (fun (a, next) => a.1 < next.1) = true) (hoff : lookupswitch.offset ps.toList df i.toInt = o) (ho : 0 ≤ (pc0 : Int) + o) (hp : ((pc0 : Int) + o).toNat = pc')
    (hr : Steps tb e below (T.setTop { g with pc := pc', stack := rest }) target) : Steps tb e below (T.setTop g) target := by
  subst hg hpc hp
  jvm_step h [h.top, hx, hd, hs, hoff, ho, lookupswitch.wp_chain]
  exact ⟨by simpa using hord, hr⟩
theorem own_len {p : Program} {l : Launch} {e : Env} {R : Room} {s : State} {m : MethodId} {args : Array Value} {below : List Frame} {meth : Method} {c : Code} {T target : State} {locs : List Loc} {cells slots : Nat} {Z : State} {h : Heap} {a : Addr} {k : ClassId} {ty : FieldType} {z : Int32} {vs : List Value} {dv : Value}
    (X : Stand p l e R s m args below meth c T locs cells slots) (hx : p.tables.exec = Jvm.exec) (hZ : Z.Warmed39 s.vm) (eT : T.heap = h) (F : Arv Z h a k ty z vs dv) {g : JFrame} (hg : g.method = m) {rest : List Value} (hs : g.stack = .ref a :: rest) (hd : decode c.code g.pc = .ok (.arraylength, 1))
    (hr : Steps p.tables e below (T.setTop { g with pc := g.pc + 1, stack := .int z :: rest }) target) : Steps p.tables e below (T.setTop g) target := by
  obtain ⟨cl, A, -, S, q, -⟩ := F
  exact X.arraylength hx (by rw [eT]; exact A.1) (State.isArrayOf_alike hZ.alike A.2.1) hg hs hd _ (by rw [len_of S q]; exact hr)
theorem own_arvnew {Z : State} {h : Heap} {a : Addr} {k : ClassId} {ty : FieldType} {z : Int32} (n : Nat) (A : Arr Z h a (newA k ty z) ty) (q : ¬ z < 0) : Arv Z h a k ty z (List.replicate n (defaultValue ty)) (defaultValue ty) := (Arv.new A q).pad fun i => pad_rep [] _ n i
theorem own_narB (x : Int32) : nar .byte x.toInt8.toInt32 = x.toInt8.toInt32 := by show x.toInt8.toInt32.toInt8.toInt32 = _; simp
theorem own_narC (x : Int32) : nar .char x.toUInt32.toUInt16.toUInt32.toInt32 = x.toUInt32.toUInt16.toUInt32.toInt32 := by show x.toUInt32.toUInt16.toUInt32.toInt32.toUInt32.toUInt16.toUInt32.toInt32 = _; simp only [UInt32.toUInt32_toInt32, UInt16.toUInt16_toUInt32]
theorem own_fitB (x : Int32) : fits .byte (.int (nar .byte x)) = true := fits_nar_byte x
theorem own_nb {z : Int32} (h : z = 0 ∨ z = 1) : narrow .boolean (.int z) = .int z := by rcases h with rfl | rfl <;> rfl
theorem own_fb {z : Int32} (h : z = 0 ∨ z = 1) : fits .boolean (.int z) = true := by rcases h with rfl | rfl <;> rfl
theorem own_nar {z : Int32} (h : z = 0 ∨ z = 1) : nar .boolean z = z := by rcases h with rfl | rfl <;> rfl
def own_ab (n : Int32) : Int64 := if ((16 : Int64) + (n.toInt64)) < (524288 : Int64) then ((16 : Int64) + (n.toInt64)) else ((2 : Int64) * ((16 : Int64) + (n.toInt64)))
def own_ex (n : Int32) : Int64 := if (524271 : Int32) < n then (((n.toInt64) + (16 : Int64)) + ((n.toInt64) + (16 : Int64))) else ((n.toInt64) + (16 : Int64))
theorem own_s (n : Int32) : ((16 : Int64) + n.toInt64).toInt = 16 + n.toInt := by
  have h := rng32 n
  have e : ((16 : Int64) + n.toInt64).toInt = (16 : Int64).toInt + n.toInt64.toInt := XT.add64 ⟨by rw [c_i2l]; show _ ≤ 16 + _; omega, by rw [c_i2l]; show 16 + _ < _; omega⟩
  rw [e, c_i2l] <;> rfl
theorem own_d (n : Int32) : ((2 : Int64) * ((16 : Int64) + n.toInt64)).toInt = 2 * (16 + n.toInt) := by
  have h := rng32 n
  have e : ((2 : Int64) * ((16 : Int64) + n.toInt64)).toInt = (2 : Int64).toInt * ((16 : Int64) + n.toInt64).toInt := XT.mul64 ⟨by rw [own_s]; show _ ≤ 2 * _; omega, by rw [own_s]; show 2 * _ < _; omega⟩
  rw [e, own_s] <;> rfl
theorem own_abI (n : Int32) : (own_ab n).toInt = if 16 + n.toInt < 524288 then 16 + n.toInt else 2 * (16 + n.toInt) := by
  have q : ((16 : Int64) + (n.toInt64)) < (524288 : Int64) ↔ 16 + n.toInt < 524288 := by rw [Int64.lt_iff_toInt_lt, own_s]; exact Iff.rfl
  unfold own_ab
  by_cases h : 16 + n.toInt < 524288
  · rw [if_pos (q.mpr h), if_pos h, own_s]
  · rw [if_neg (fun z => h (q.mp z)), if_neg h, own_d]
theorem own_exI (n : Int32) : (own_ex n).toInt = if 524271 < n.toInt then 2 * (16 + n.toInt) else 16 + n.toInt := by
  have h := rng32 n
  have q : (524271 : Int32) < n ↔ 524271 < n.toInt := by rw [Int32.lt_iff_toInt_lt]; exact Iff.rfl
  have e1 : ((n.toInt64) + (16 : Int64)).toInt = 16 + n.toInt := by rw [Int64.add_comm]; exact own_s n
  have e2 : (((n.toInt64) + (16 : Int64)) + ((n.toInt64) + (16 : Int64))).toInt = ((n.toInt64) + (16 : Int64)).toInt + ((n.toInt64) + (16 : Int64)).toInt := XT.add64 ⟨by rw [e1]; omega, by rw [e1]; omega⟩
  unfold own_ex
  by_cases g : 524271 < n.toInt
  · rw [if_pos (q.mpr g), if_pos g, e2, e1]; omega
  · rw [if_neg (fun z => g (q.mp z)), if_neg g, e1]
theorem own_l1 (n : Int32) : own_ab n = own_ex n := by
  apply Int64.toInt_inj.mp
  rw [own_abI, own_exI]
  by_cases g : 524271 < n.toInt
  · rw [if_pos g, if_neg (by omega)]
  · rw [if_neg g, if_pos (by omega)]
theorem own_l2 (n : Int32) : ¬ (own_ab n) < ((n.toInt64) + (16 : Int64)) := by
  rw [Int64.lt_iff_toInt_lt, own_abI, Int64.add_comm, own_s]
  split <;> omega
theorem own_l3 (a b : Int32) (h : ¬ b < a) : ¬ (own_ab b) < (own_ab a) := by
  rw [Int32.lt_iff_toInt_lt] at h
  rw [Int64.lt_iff_toInt_lt, own_abI, own_abI]
  split <;> split <;> omega
theorem pd__I_J : parseMethodDescriptor "(I)J" = some ⟨[.int], some .long⟩ := by decide +kernel
theorem d1_0 : decode prog_118_method_4_code 0 = .ok (.ldc2_w 30, 3) := by decide +kernel
theorem d1_3 : decode prog_118_method_4_code 3 = .ok (.iload_n 0, 1) := by decide +kernel
theorem d1_4 : decode prog_118_method_4_code 4 = .ok (.i2l, 1) := by decide +kernel
theorem d1_5 : decode prog_118_method_4_code 5 = .ok (.ladd, 1) := by decide +kernel
theorem d1_6 : decode prog_118_method_4_code 6 = .ok (.lstore_n 1, 1) := by decide +kernel
theorem d1_7 : decode prog_118_method_4_code 7 = .ok (.lload_n 1, 1) := by decide +kernel
theorem d1_8 : decode prog_118_method_4_code 8 = .ok (.ldc2_w 32, 3) := by decide +kernel
theorem d1_11 : decode prog_118_method_4_code 11 = .ok (.lcmp, 1) := by decide +kernel
theorem d1_12 : decode prog_118_method_4_code 12 = .ok (.ifCond .ge 7, 3) := by decide +kernel
theorem d1_15 : decode prog_118_method_4_code 15 = .ok (.lload_n 1, 1) := by decide +kernel
theorem d1_16 : decode prog_118_method_4_code 16 = .ok (.goto 8, 3) := by decide +kernel
theorem d1_19 : decode prog_118_method_4_code 19 = .ok (.ldc2_w 34, 3) := by decide +kernel
theorem d1_22 : decode prog_118_method_4_code 22 = .ok (.lload_n 1, 1) := by decide +kernel
theorem d1_23 : decode prog_118_method_4_code 23 = .ok (.lmul, 1) := by decide +kernel
theorem d1_24 : decode prog_118_method_4_code 24 = .ok (.lreturn, 1) := by decide +kernel
theorem pn_1 : plainName "com/example/rulecart/rulecart/cli/Room" = true := by first | (simp [plainName, overriddenIn]; done) | decide +kernel
theorem ef_1 (m : MethodId) (x0 : Int32) : entryFrame m #[(.int x0)] 3 = mkF m 0 #[.val (.int x0), .unset, .unset] [] := by first | (simp [entryFrame, mkF, argsToLocals, Value.category]; done) | rfl
def Q1 (Z : State) (p1 : Int32) (h0 : Heap) (n0 : Nat) (v : Option Value) (h : Heap) (L : List Loc) : Prop := v = some (.long (own_ab p1)) ∧ Fr n0 L ∧ h = h0
set_option maxRecDepth 65536 in
set_option maxHeartbeats 40000000 in
theorem rm1 (l : Launch) (Z : State) (a0 : Array Value) (hw : ∀ d ∈ tables_1, d.before a0 Z = true) (ws : List Jvm.Cond) (p1 : Int32) (h0 : Heap) (n0 : Nat) (Z0 : n0 ≤ h0.size) :
    MetFree l (⟨"com/example/rulecart/rulecart/cli/Room", "arrayBytes", "(I)J"⟩ : MethodName) (head1 (Jvm.Cond.code (⟨"com/example/rulecart/rulecart/cli/Room", "arrayBytes", "(I)J"⟩ : MethodName) prog_118_method_4_code 3 (some .long) :: ws) ({ frames := 0, cells := 0, slots := 0, locals := 0 } : Room)) (fun a U => a = #[(.int p1)] ∧ Z.Warmed39 U.vm ∧ U.heap = h0) (fun _ _ _ _ _ => True) (fun _ U o U' => ∃ v L, o = .returned v ∧ Q1 Z p1 h0 n0 v U'.heap L ∧ FrameEnd U o U' L ({ frames := 0, cells := 0, slots := 0, locals := 0 } : Room).cells ({ frames := 0, cells := 0, slots := 0, locals := 0 } : Room).slots) := by
  refine MetFree.of_bodySF (plainFor_of_name pn_1) hisR ?_
  intro p e s m args below meth c s₁ Bd hml0 hP hK
  obtain ⟨rfl, hZ, hh⟩ := hP
  have hx := Bd.exec
  have hby := Bd.bytes
  have hml : c.maxLocals = 3 := hml0
  have hown : s.vm.findClass "com/example/rulecart/rulecart/cli/Room" = some m.cls := findClass_of_methodNamed Bd.named
  have hnm := (name_of_methodNamed Bd.named Bd.method).1
  have X0 : Stand p l e ({ frames := 0, cells := 0, slots := 0, locals := 0 } : Room) s m #[(.int p1)] below meth c s₁ [] 0 0 := Stand.of_body Bd
  have e0 : s₁.heap = h0 := by rw [← hh, Bd.state]; rfl
  have N0 := Fr.nil n0
  show own_R p.tables e below (own_P s (Q1 Z p1 h0 n0) ({ frames := 0, cells := 0, slots := 0, locals := 0 } : Room).cells ({ frames := 0, cells := 0, slots := 0, locals := 0 } : Room).slots) (s₁.setTop (entryFrame m #[(.int p1)] 3))
  refine own_f s₁ (mkF m 0 #[.val (.int p1), .unset, .unset] []) (fun t k => castTop (ef_1 m p1) k) ?_
  refine own_f s₁ (mkF m 3 #[.val (.int p1), .unset, .unset] [(.long (16 : Int64))]) (fun t k => X0.ldc2J hx hown (mvT hZ (own_w hw 4 rfl)) rfl (hb hby d1_0) k) ?_
  refine own_f s₁ (mkF m 4 #[.val (.int p1), .unset, .unset] [(.int p1), (.long (16 : Int64))]) (fun t k => XS.iloadN X0.here hx rfl (hb hby d1_3) rfl k) ?_
  refine own_f s₁ (mkF m 5 #[.val (.int p1), .unset, .unset] [(.long (p1.toInt64)), (.long (16 : Int64))]) (fun t k => XS.i2l X0.here hx rfl (hb hby d1_4) rfl k) ?_
  refine own_f s₁ (mkF m 6 #[.val (.int p1), .unset, .unset] [(.long ((16 : Int64) + (p1.toInt64)))]) (fun t k => XS.ladd X0.here hx rfl (hb hby d1_5) rfl k) ?_
  refine own_f s₁ (mkF m 7 #[.val (.int p1), .val (.long ((16 : Int64) + (p1.toInt64))), .second] []) (fun t k => XS.lstoreN X0.here hx rfl (hb hby d1_6) rfl (l' := #[.val (.int p1), .val (.long ((16 : Int64) + (p1.toInt64))), .second]) rfl k) ?_
  refine own_f s₁ (mkF m 8 #[.val (.int p1), .val (.long ((16 : Int64) + (p1.toInt64))), .second] [(.long ((16 : Int64) + (p1.toInt64)))]) (fun t k => XS.lloadN X0.here hx rfl (hb hby d1_7) rfl k) ?_
  refine own_f s₁ (mkF m 11 #[.val (.int p1), .val (.long ((16 : Int64) + (p1.toInt64))), .second] [(.long (524288 : Int64)), (.long ((16 : Int64) + (p1.toInt64)))]) (fun t k => X0.ldc2J hx hown (mvT hZ (own_w hw 5 rfl)) rfl (hb hby d1_8) k) ?_
  refine own_f s₁ (mkF m 12 #[.val (.int p1), .val (.long ((16 : Int64) + (p1.toInt64))), .second] [(.int (XT.cmpL ((16 : Int64) + (p1.toInt64)) (524288 : Int64)))]) (fun t k => XT.lcmp X0.here hx rfl (hb hby d1_11) rfl k) ?_
  by_cases hc1 : ((16 : Int64) + (p1.toInt64)) < (524288 : Int64)
  · skip
    refine own_f s₁ (mkF m 15 #[.val (.int p1), .val (.long ((16 : Int64) + (p1.toInt64))), .second] []) (fun t k => XS.ifNo X0.here hx rfl (hb hby d1_12) rfl (XT.ll_ge_f hc1) k) ?_
    refine own_f s₁ (mkF m 16 #[.val (.int p1), .val (.long ((16 : Int64) + (p1.toInt64))), .second] [(.long ((16 : Int64) + (p1.toInt64)))]) (fun t k => XS.lloadN X0.here hx rfl (hb hby d1_15) rfl k) ?_
    refine own_f s₁ (mkF m 24 #[.val (.int p1), .val (.long ((16 : Int64) + (p1.toInt64))), .second] [(.long ((16 : Int64) + (p1.toInt64)))]) (fun t k => XS.goto X0.here hx rfl (pc0 := 16) (pc' := 24) rfl (hb hby d1_16) (by decide) (by decide) k) ?_
    obtain ⟨fs, hr, hrun, hended, hW, hsame⟩ := X0.leave (v := some (.long ((16 : Int64) + (p1.toInt64)))) (fun h => by rw [Bd.returns] at h; cases h)
    refine ⟨_, _, own_retL X0 hx Bd.returns (hb hby d1_24) hr, hrun, hended, _, _, rfl, ?_, ⟨_, rfl⟩, hW, hsame.mono (by decide) (by decide)⟩
    show Q1 Z p1 h0 n0 _ s₁.heap _
    rw [e0]
    exact ⟨by rw [own_ab, if_pos hc1], N0, rfl⟩
  · skip
    refine own_f s₁ (mkF m 19 #[.val (.int p1), .val (.long ((16 : Int64) + (p1.toInt64))), .second] []) (fun t k => XS.ifYes X0.here hx rfl (pc0 := 12) (pc' := 19) rfl (hb hby d1_12) rfl (XT.ll_ge_t hc1) (by decide) (by decide) k) ?_
    refine own_f s₁ (mkF m 22 #[.val (.int p1), .val (.long ((16 : Int64) + (p1.toInt64))), .second] [(.long (2 : Int64))]) (fun t k => X0.ldc2J hx hown (mvT hZ (own_w hw 12 rfl)) rfl (hb hby d1_19) k) ?_
    refine own_f s₁ (mkF m 23 #[.val (.int p1), .val (.long ((16 : Int64) + (p1.toInt64))), .second] [(.long ((16 : Int64) + (p1.toInt64))), (.long (2 : Int64))]) (fun t k => XS.lloadN X0.here hx rfl (hb hby d1_22) rfl k) ?_
    refine own_f s₁ (mkF m 24 #[.val (.int p1), .val (.long ((16 : Int64) + (p1.toInt64))), .second] [(.long ((2 : Int64) * ((16 : Int64) + (p1.toInt64))))]) (fun t k => XS.lmul X0.here hx rfl (hb hby d1_23) rfl k) ?_
    obtain ⟨fs, hr, hrun, hended, hW, hsame⟩ := X0.leave (v := some (.long ((2 : Int64) * ((16 : Int64) + (p1.toInt64))))) (fun h => by rw [Bd.returns] at h; cases h)
    refine ⟨_, _, own_retL X0 hx Bd.returns (hb hby d1_24) hr, hrun, hended, _, _, rfl, ?_, ⟨_, rfl⟩, hW, hsame.mono (by decide) (by decide)⟩
    show Q1 Z p1 h0 n0 _ s₁.heap _
    rw [e0]
    exact ⟨by rw [own_ab, if_neg hc1], N0, rfl⟩
theorem d2_0 : decode method_2_code 0 = .ok (.iload_n 0, 1) := by decide +kernel
theorem d2_1 : decode method_2_code 1 = .ok (.i2l, 1) := by decide +kernel
theorem d2_2 : decode method_2_code 2 = .ok (.ldc2_w 7, 3) := by decide +kernel
theorem d2_5 : decode method_2_code 5 = .ok (.ladd, 1) := by decide +kernel
theorem d2_6 : decode method_2_code 6 = .ok (.lstore_n 1, 1) := by decide +kernel
theorem d2_7 : decode method_2_code 7 = .ok (.iload_n 0, 1) := by decide +kernel
theorem d2_8 : decode method_2_code 8 = .ok (.ldc 9, 2) := by decide +kernel
theorem d2_10 : decode method_2_code 10 = .ok (.if_icmp .gt 5, 3) := by decide +kernel
theorem d2_13 : decode method_2_code 13 = .ok (.lload_n 1, 1) := by decide +kernel
theorem d2_14 : decode method_2_code 14 = .ok (.lreturn, 1) := by decide +kernel
theorem d2_15 : decode method_2_code 15 = .ok (.lload_n 1, 1) := by decide +kernel
theorem d2_16 : decode method_2_code 16 = .ok (.lload_n 1, 1) := by decide +kernel
theorem d2_17 : decode method_2_code 17 = .ok (.ladd, 1) := by decide +kernel
theorem d2_18 : decode method_2_code 18 = .ok (.lreturn, 1) := by decide +kernel
theorem pn_2 : plainName "com/example/rulecart/rulecart/cli/RoomArrayBytesPinLaw" = true := by first | (simp [plainName, overriddenIn]; done) | decide +kernel
theorem ef_2 (m : MethodId) (x0 : Int32) : entryFrame m #[(.int x0)] 3 = mkF m 0 #[.val (.int x0), .unset, .unset] [] := by first | (simp [entryFrame, mkF, argsToLocals, Value.category]; done) | rfl
def Q2 (Z : State) (p1 : Int32) (h0 : Heap) (n0 : Nat) (v : Option Value) (h : Heap) (L : List Loc) : Prop := v = some (.long (own_ex p1)) ∧ Fr n0 L ∧ h = h0
set_option maxRecDepth 65536 in
set_option maxHeartbeats 40000000 in
theorem rm2 (l : Launch) (Z : State) (a0 : Array Value) (hw : ∀ d ∈ tables_1, d.before a0 Z = true) (ws : List Jvm.Cond) (p1 : Int32) (h0 : Heap) (n0 : Nat) (Z0 : n0 ≤ h0.size) :
    MetFree l (⟨"com/example/rulecart/rulecart/cli/RoomArrayBytesPinLaw", "expected", "(I)J"⟩ : MethodName) (head1 (Jvm.Cond.code (⟨"com/example/rulecart/rulecart/cli/RoomArrayBytesPinLaw", "expected", "(I)J"⟩ : MethodName) method_2_code 3 (some .long) :: ws) ({ frames := 0, cells := 0, slots := 0, locals := 0 } : Room)) (fun a U => a = #[(.int p1)] ∧ Z.Warmed39 U.vm ∧ U.heap = h0) (fun _ _ _ _ _ => True) (fun _ U o U' => ∃ v L, o = .returned v ∧ Q2 Z p1 h0 n0 v U'.heap L ∧ FrameEnd U o U' L ({ frames := 0, cells := 0, slots := 0, locals := 0 } : Room).cells ({ frames := 0, cells := 0, slots := 0, locals := 0 } : Room).slots) := by
  refine MetFree.of_bodySF (plainFor_of_name pn_2) hisR ?_
  intro p e s m args below meth c s₁ Bd hml0 hP hK
  obtain ⟨rfl, hZ, hh⟩ := hP
  have hx := Bd.exec
  have hby := Bd.bytes
  have hml : c.maxLocals = 3 := hml0
  have hown : s.vm.findClass "com/example/rulecart/rulecart/cli/RoomArrayBytesPinLaw" = some m.cls := findClass_of_methodNamed Bd.named
  have hnm := (name_of_methodNamed Bd.named Bd.method).1
  have X0 : Stand p l e ({ frames := 0, cells := 0, slots := 0, locals := 0 } : Room) s m #[(.int p1)] below meth c s₁ [] 0 0 := Stand.of_body Bd
  have e0 : s₁.heap = h0 := by rw [← hh, Bd.state]; rfl
  have N0 := Fr.nil n0
  show own_R p.tables e below (own_P s (Q2 Z p1 h0 n0) ({ frames := 0, cells := 0, slots := 0, locals := 0 } : Room).cells ({ frames := 0, cells := 0, slots := 0, locals := 0 } : Room).slots) (s₁.setTop (entryFrame m #[(.int p1)] 3))
  refine own_f s₁ (mkF m 0 #[.val (.int p1), .unset, .unset] []) (fun t k => castTop (ef_2 m p1) k) ?_
  refine own_f s₁ (mkF m 1 #[.val (.int p1), .unset, .unset] [(.int p1)]) (fun t k => XS.iloadN X0.here hx rfl (hb hby d2_0) rfl k) ?_
  refine own_f s₁ (mkF m 2 #[.val (.int p1), .unset, .unset] [(.long (p1.toInt64))]) (fun t k => XS.i2l X0.here hx rfl (hb hby d2_1) rfl k) ?_
  refine own_f s₁ (mkF m 5 #[.val (.int p1), .unset, .unset] [(.long (16 : Int64)), (.long (p1.toInt64))]) (fun t k => X0.ldc2J hx hown (mvT hZ (own_w hw 10 rfl)) rfl (hb hby d2_2) k) ?_
  refine own_f s₁ (mkF m 6 #[.val (.int p1), .unset, .unset] [(.long ((p1.toInt64) + (16 : Int64)))]) (fun t k => XS.ladd X0.here hx rfl (hb hby d2_5) rfl k) ?_
  refine own_f s₁ (mkF m 7 #[.val (.int p1), .val (.long ((p1.toInt64) + (16 : Int64))), .second] []) (fun t k => XS.lstoreN X0.here hx rfl (hb hby d2_6) rfl (l' := #[.val (.int p1), .val (.long ((p1.toInt64) + (16 : Int64))), .second]) rfl k) ?_
  refine own_f s₁ (mkF m 8 #[.val (.int p1), .val (.long ((p1.toInt64) + (16 : Int64))), .second] [(.int p1)]) (fun t k => XS.iloadN X0.here hx rfl (hb hby d2_7) rfl k) ?_
  refine own_f s₁ (mkF m 10 #[.val (.int p1), .val (.long ((p1.toInt64) + (16 : Int64))), .second] [(.int (524271 : Int32)), (.int p1)]) (fun t k => X0.ldcI hx hown (mvT hZ (own_w hw 11 rfl)) rfl (hb hby d2_8) k) ?_
  by_cases hc1 : (524271 : Int32) < p1
  · skip
    refine own_f s₁ (mkF m 15 #[.val (.int p1), .val (.long ((p1.toInt64) + (16 : Int64))), .second] []) (fun t k => XS.icmpYes X0.here hx rfl (pc0 := 10) (pc' := 15) rfl (hb hby d2_10) rfl (XT.ii_gt_t hc1) (by decide) (by decide) k) ?_
    refine own_f s₁ (mkF m 16 #[.val (.int p1), .val (.long ((p1.toInt64) + (16 : Int64))), .second] [(.long ((p1.toInt64) + (16 : Int64)))]) (fun t k => XS.lloadN X0.here hx rfl (hb hby d2_15) rfl k) ?_
    refine own_f s₁ (mkF m 17 #[.val (.int p1), .val (.long ((p1.toInt64) + (16 : Int64))), .second] [(.long ((p1.toInt64) + (16 : Int64))), (.long ((p1.toInt64) + (16 : Int64)))]) (fun t k => XS.lloadN X0.here hx rfl (hb hby d2_16) rfl k) ?_
    refine own_f s₁ (mkF m 18 #[.val (.int p1), .val (.long ((p1.toInt64) + (16 : Int64))), .second] [(.long (((p1.toInt64) + (16 : Int64)) + ((p1.toInt64) + (16 : Int64))))]) (fun t k => XS.ladd X0.here hx rfl (hb hby d2_17) rfl k) ?_
    obtain ⟨fs, hr, hrun, hended, hW, hsame⟩ := X0.leave (v := some (.long (((p1.toInt64) + (16 : Int64)) + ((p1.toInt64) + (16 : Int64))))) (fun h => by rw [Bd.returns] at h; cases h)
    refine ⟨_, _, own_retL X0 hx Bd.returns (hb hby d2_18) hr, hrun, hended, _, _, rfl, ?_, ⟨_, rfl⟩, hW, hsame.mono (by decide) (by decide)⟩
    show Q2 Z p1 h0 n0 _ s₁.heap _
    rw [e0]
    exact ⟨by rw [own_ex, if_pos hc1], N0, rfl⟩
  · skip
    refine own_f s₁ (mkF m 13 #[.val (.int p1), .val (.long ((p1.toInt64) + (16 : Int64))), .second] []) (fun t k => XS.icmpNo X0.here hx rfl (hb hby d2_10) rfl (XT.ii_gt_f hc1) k) ?_
    refine own_f s₁ (mkF m 14 #[.val (.int p1), .val (.long ((p1.toInt64) + (16 : Int64))), .second] [(.long ((p1.toInt64) + (16 : Int64)))]) (fun t k => XS.lloadN X0.here hx rfl (hb hby d2_13) rfl k) ?_
    obtain ⟨fs, hr, hrun, hended, hW, hsame⟩ := X0.leave (v := some (.long ((p1.toInt64) + (16 : Int64)))) (fun h => by rw [Bd.returns] at h; cases h)
    refine ⟨_, _, own_retL X0 hx Bd.returns (hb hby d2_14) hr, hrun, hended, _, _, rfl, ?_, ⟨_, rfl⟩, hW, hsame.mono (by decide) (by decide)⟩
    show Q2 Z p1 h0 n0 _ s₁.heap _
    rw [e0]
    exact ⟨by rw [own_ex, if_neg hc1], N0, rfl⟩
theorem pn_0 : plainName "com/example/rulecart/rulecart/cli/RoomArrayBytesPinLaw" = true := by first | (simp [plainName, overriddenIn]; done) | decide +kernel
theorem ef_0 (m : MethodId) (x0 : Int32) (x1 : Int32) : entryFrame m #[(.int x0), (.int x1)] maxLocals = mkF m 0 #[.val (.int x0), .val (.int x1), .unset, .unset, .unset, .unset] [] := by first | (simp [entryFrame, mkF, argsToLocals, Value.category, maxLocals]; done) | rfl
def Q0 (Z : State) (p1 : Int32) (p2 : Int32) (h0 : Heap) (n0 : Nat) (v : Option Value) (h : Heap) (L : List Loc) : Prop := v = some (.int 1) ∧ Fr n0 L
set_option maxRecDepth 65536 in
set_option maxHeartbeats 40000000 in
theorem rm0 (l : Launch) (Z : State) (a0 : Array Value) (hw : ∀ d ∈ tables_1, d.before a0 Z = true) (ws : List Jvm.Cond) (p1 : Int32) (p2 : Int32) (h0 : Heap) (n0 : Nat) (Z0 : n0 ≤ h0.size) :
    MetFree l x (head1 (Jvm.Cond.code x code maxLocals ret :: ws) room_1) (fun a U => a = #[(.int p1), (.int p2)] ∧ Z.Warmed39 U.vm ∧ U.heap = h0) (fun _ _ _ _ _ => True) (fun _ U o U' => ∃ v L, o = .returned v ∧ Q0 Z p1 p2 h0 n0 v U'.heap L ∧ FrameEnd U o U' L room_1.cells room_1.slots) := by
  refine MetFree.of_bodySF (plainFor_of_name pn_0) hisR ?_
  intro p e s m args below meth c s₁ Bd hml0 hP hK
  obtain ⟨rfl, hZ, hh⟩ := hP
  have hx := Bd.exec
  have hby := Bd.bytes
  have hml : c.maxLocals = 6 := hml0
  have hown : s.vm.findClass "com/example/rulecart/rulecart/cli/RoomArrayBytesPinLaw" = some m.cls := findClass_of_methodNamed Bd.named
  have hnm := (name_of_methodNamed Bd.named Bd.method).1
  have X0 : Stand p l e room_1 s m #[(.int p1), (.int p2)] below meth c s₁ [] 0 0 := Stand.of_body Bd
  have e0 : s₁.heap = h0 := by rw [← hh, Bd.state]; rfl
  have N0 := Fr.nil n0
  show own_R p.tables e below (own_P s (Q0 Z p1 p2 h0 n0) room_1.cells room_1.slots) (s₁.setTop (entryFrame m #[(.int p1), (.int p2)] maxLocals))
  refine own_f s₁ (mkF m 0 #[.val (.int p1), .val (.int p2), .unset, .unset, .unset, .unset] []) (fun t k => castTop (ef_0 m p1 p2) k) ?_
  refine own_f s₁ (mkF m 1 #[.val (.int p1), .val (.int p2), .unset, .unset, .unset, .unset] [(.int p1)]) (fun t k => XS.iloadN X0.here hx rfl (hb hby at_0) rfl k) ?_
  obtain ⟨_, _, ⟨T1, Lq1, kq_1, nq_1⟩, -, X1, ⟨Lc1, hQ1, lq1, yq1, zq1⟩, st1⟩ := Jvm.LawKit.callS X0 hx (y := (⟨"com/example/rulecart/rulecart/cli/Room", "arrayBytes", "(I)J"⟩ : MethodName)) hown (mvT hZ (own_w hw 0 rfl)) (mvT hZ (own_w hw 1 rfl)) (mvT hZ (own_w hw 2 rfl)) (mvT hZ (own_w hw 3 rfl)) (by decide) (backOf (W := 0) (rm1 l Z a0 hw [] p1 h0 n0 Z0 ) hZ (own_w hw 3 rfl) (own_w hw 2 rfl) (by decide) (by decide)) (g := (mkF m 1 #[.val (.int p1), .val (.int p2), .unset, .unset, .unset, .unset] [(.int p1)])) rfl (by rw [hml]; rfl) (argsL := [(.int p1)]) (rest := []) (lenOf pd__I_J rfl) rfl (by show 2 * 0 + _ ≤ _; exact Nat.le_of_eq rfl) (hb hby at_1) (fun _ _ => ⟨rfl, e0, (by decide : 0 + 0 ≤ _), (by decide : 0 + 0 ≤ _)⟩)
  dsimp only [Pt.U, Pt.locs, Pt.cells, Pt.slots] at X1 lq1 yq1 zq1 st1 hQ1
  subst lq1 yq1 zq1
  obtain ⟨h1, e1⟩ : ∃ z, T1.heap = z := ⟨_, rfl⟩
  rw [e1] at hQ1
  unfold Q1 at hQ1
  obtain ⟨rfl, Nq1, qh1⟩ := hQ1
  have N1 := Fr.app N0 Nq1
  rw [qh1] at e1
  refine own_f T1 (mkF m 4 #[.val (.int p1), .val (.int p2), .unset, .unset, .unset, .unset] [(.long (own_ab p1))]) st1 ?_
  refine own_f T1 (mkF m 5 #[.val (.int p1), .val (.int p2), .val (.long (own_ab p1)), .second, .unset, .unset] []) (fun t k => XS.lstoreN X1.here hx rfl (hb hby at_4) rfl (l' := #[.val (.int p1), .val (.int p2), .val (.long (own_ab p1)), .second, .unset, .unset]) rfl k) ?_
  refine own_f T1 (mkF m 6 #[.val (.int p1), .val (.int p2), .val (.long (own_ab p1)), .second, .unset, .unset] [(.int p2)]) (fun t k => XS.iloadN X1.here hx rfl (hb hby at_5) rfl k) ?_
  obtain ⟨_, _, ⟨T2, Lq2, kq_2, nq_2⟩, -, X2, ⟨Lc2, hQ2, lq2, yq2, zq2⟩, st2⟩ := Jvm.LawKit.callS X1 hx (y := (⟨"com/example/rulecart/rulecart/cli/Room", "arrayBytes", "(I)J"⟩ : MethodName)) hown (mvT hZ (own_w hw 0 rfl)) (mvT hZ (own_w hw 1 rfl)) (mvT hZ (own_w hw 2 rfl)) (mvT hZ (own_w hw 3 rfl)) (by decide) (backOf (W := 0) (rm1 l Z a0 hw [] p2 h0 n0 Z0 ) hZ (own_w hw 3 rfl) (own_w hw 2 rfl) (by decide) (by decide)) (g := (mkF m 6 #[.val (.int p1), .val (.int p2), .val (.long (own_ab p1)), .second, .unset, .unset] [(.int p2)])) rfl (by rw [hml]; rfl) (argsL := [(.int p2)]) (rest := []) (lenOf pd__I_J rfl) rfl (by show 2 * 0 + _ ≤ _; exact Nat.le_of_eq rfl) (hb hby at_6) (fun _ _ => ⟨rfl, e1, (by decide : 0 + 0 + 0 ≤ _), (by decide : 0 + 0 + 0 ≤ _)⟩)
  dsimp only [Pt.U, Pt.locs, Pt.cells, Pt.slots] at X2 lq2 yq2 zq2 st2 hQ2
  subst lq2 yq2 zq2
  obtain ⟨h2, e2⟩ : ∃ z, T2.heap = z := ⟨_, rfl⟩
  rw [e2] at hQ2
  unfold Q1 at hQ2
  obtain ⟨rfl, Nq2, qh2⟩ := hQ2
  have N2 := Fr.app N1 Nq2
  rw [qh2] at e2
  refine own_f T2 (mkF m 9 #[.val (.int p1), .val (.int p2), .val (.long (own_ab p1)), .second, .unset, .unset] [(.long (own_ab p2))]) st2 ?_
  refine own_f T2 (mkF m 11 #[.val (.int p1), .val (.int p2), .val (.long (own_ab p1)), .second, .val (.long (own_ab p2)), .second] []) (fun t k => XS.lstore X2.here hx rfl (hb hby at_9) rfl (l' := #[.val (.int p1), .val (.int p2), .val (.long (own_ab p1)), .second, .val (.long (own_ab p2)), .second]) rfl k) ?_
  refine own_f T2 (mkF m 12 #[.val (.int p1), .val (.int p2), .val (.long (own_ab p1)), .second, .val (.long (own_ab p2)), .second] [(.long (own_ab p1))]) (fun t k => XS.lloadN X2.here hx rfl (hb hby at_11) rfl k) ?_
  refine own_f T2 (mkF m 13 #[.val (.int p1), .val (.int p2), .val (.long (own_ab p1)), .second, .val (.long (own_ab p2)), .second] [(.int p1), (.long (own_ab p1))]) (fun t k => XS.iloadN X2.here hx rfl (hb hby at_12) rfl k) ?_
  obtain ⟨_, _, ⟨T3, Lq3, kq_3, nq_3⟩, -, X3, ⟨Lc3, hQ3, lq3, yq3, zq3⟩, st3⟩ := Jvm.LawKit.callS X2 hx (y := (⟨"com/example/rulecart/rulecart/cli/RoomArrayBytesPinLaw", "expected", "(I)J"⟩ : MethodName)) hown (mvT hZ (own_w hw 6 rfl)) (mvT hZ (own_w hw 7 rfl)) (mvT hZ (own_w hw 8 rfl)) (mvT hZ (own_w hw 9 rfl)) (by decide) (backOf (W := 2) (rm2 l Z a0 hw [] p1 h0 n0 Z0 ) hZ (own_w hw 9 rfl) (own_w hw 8 rfl) (by decide) (by decide)) (g := (mkF m 13 #[.val (.int p1), .val (.int p2), .val (.long (own_ab p1)), .second, .val (.long (own_ab p2)), .second] [(.int p1), (.long (own_ab p1))])) rfl (by rw [hml]; rfl) (argsL := [(.int p1)]) (rest := [(.long (own_ab p1))]) (lenOf pd__I_J rfl) rfl (by show 2 * 0 + _ ≤ _; exact Nat.le_of_eq rfl) (hb hby at_13) (fun _ _ => ⟨rfl, e2, (by decide : 0 + 0 + 0 + 0 ≤ _), (by decide : 0 + 0 + 0 + 0 ≤ _)⟩)
  dsimp only [Pt.U, Pt.locs, Pt.cells, Pt.slots] at X3 lq3 yq3 zq3 st3 hQ3
  subst lq3 yq3 zq3
  obtain ⟨h3, e3⟩ : ∃ z, T3.heap = z := ⟨_, rfl⟩
  rw [e3] at hQ3
  unfold Q2 at hQ3
  obtain ⟨rfl, Nq3, qh3⟩ := hQ3
  have N3 := Fr.app N2 Nq3
  rw [qh3] at e3
  refine own_f T3 (mkF m 16 #[.val (.int p1), .val (.int p2), .val (.long (own_ab p1)), .second, .val (.long (own_ab p2)), .second] [(.long (own_ex p1)), (.long (own_ab p1))]) st3 ?_
  refine own_f T3 (mkF m 17 #[.val (.int p1), .val (.int p2), .val (.long (own_ab p1)), .second, .val (.long (own_ab p2)), .second] [(.int (XT.cmpL (own_ab p1) (own_ex p1)))]) (fun t k => XT.lcmp X3.here hx rfl (hb hby at_16) rfl k) ?_
  have hc4 : (own_ab p1) = (own_ex p1) := own_l1 p1
  refine own_f T3 (mkF m 22 #[.val (.int p1), .val (.int p2), .val (.long (own_ab p1)), .second, .val (.long (own_ab p2)), .second] []) (fun t k => XS.ifYes X3.here hx rfl (pc0 := 17) (pc' := 22) rfl (hb hby at_17) rfl (XT.ll_eq_t hc4) (by decide) (by decide) k) ?_
  refine own_f T3 (mkF m 24 #[.val (.int p1), .val (.int p2), .val (.long (own_ab p1)), .second, .val (.long (own_ab p2)), .second] [(.long (own_ab p2))]) (fun t k => XS.lload X3.here hx rfl (hb hby at_22) rfl k) ?_
  refine own_f T3 (mkF m 25 #[.val (.int p1), .val (.int p2), .val (.long (own_ab p1)), .second, .val (.long (own_ab p2)), .second] [(.int p2), (.long (own_ab p2))]) (fun t k => XS.iloadN X3.here hx rfl (hb hby at_24) rfl k) ?_
  obtain ⟨_, _, ⟨T5, Lq5, kq_5, nq_5⟩, -, X5, ⟨Lc5, hQ5, lq5, yq5, zq5⟩, st5⟩ := Jvm.LawKit.callS X3 hx (y := (⟨"com/example/rulecart/rulecart/cli/RoomArrayBytesPinLaw", "expected", "(I)J"⟩ : MethodName)) hown (mvT hZ (own_w hw 6 rfl)) (mvT hZ (own_w hw 7 rfl)) (mvT hZ (own_w hw 8 rfl)) (mvT hZ (own_w hw 9 rfl)) (by decide) (backOf (W := 2) (rm2 l Z a0 hw [] p2 h0 n0 Z0 ) hZ (own_w hw 9 rfl) (own_w hw 8 rfl) (by decide) (by decide)) (g := (mkF m 25 #[.val (.int p1), .val (.int p2), .val (.long (own_ab p1)), .second, .val (.long (own_ab p2)), .second] [(.int p2), (.long (own_ab p2))])) rfl (by rw [hml]; rfl) (argsL := [(.int p2)]) (rest := [(.long (own_ab p2))]) (lenOf pd__I_J rfl) rfl (by show 2 * 0 + _ ≤ _; exact Nat.le_of_eq rfl) (hb hby at_25) (fun _ _ => ⟨rfl, e3, (by decide : 0 + 0 + 0 + 0 + 0 ≤ _), (by decide : 0 + 0 + 0 + 0 + 0 ≤ _)⟩)
  dsimp only [Pt.U, Pt.locs, Pt.cells, Pt.slots] at X5 lq5 yq5 zq5 st5 hQ5
  subst lq5 yq5 zq5
  obtain ⟨h5, e5⟩ : ∃ z, T5.heap = z := ⟨_, rfl⟩
  rw [e5] at hQ5
  unfold Q2 at hQ5
  obtain ⟨rfl, Nq5, qh5⟩ := hQ5
  have N5 := Fr.app N3 Nq5
  rw [qh5] at e5
  refine own_f T5 (mkF m 28 #[.val (.int p1), .val (.int p2), .val (.long (own_ab p1)), .second, .val (.long (own_ab p2)), .second] [(.long (own_ex p2)), (.long (own_ab p2))]) st5 ?_
  refine own_f T5 (mkF m 29 #[.val (.int p1), .val (.int p2), .val (.long (own_ab p1)), .second, .val (.long (own_ab p2)), .second] [(.int (XT.cmpL (own_ab p2) (own_ex p2)))]) (fun t k => XT.lcmp X5.here hx rfl (hb hby at_28) rfl k) ?_
  have hc6 : (own_ab p2) = (own_ex p2) := own_l1 p2
  refine own_f T5 (mkF m 34 #[.val (.int p1), .val (.int p2), .val (.long (own_ab p1)), .second, .val (.long (own_ab p2)), .second] []) (fun t k => XS.ifYes X5.here hx rfl (pc0 := 29) (pc' := 34) rfl (hb hby at_29) rfl (XT.ll_eq_t hc6) (by decide) (by decide) k) ?_
  refine own_f T5 (mkF m 35 #[.val (.int p1), .val (.int p2), .val (.long (own_ab p1)), .second, .val (.long (own_ab p2)), .second] [(.long (own_ab p1))]) (fun t k => XS.lloadN X5.here hx rfl (hb hby at_34) rfl k) ?_
  refine own_f T5 (mkF m 36 #[.val (.int p1), .val (.int p2), .val (.long (own_ab p1)), .second, .val (.long (own_ab p2)), .second] [(.int p1), (.long (own_ab p1))]) (fun t k => XS.iloadN X5.here hx rfl (hb hby at_35) rfl k) ?_
  refine own_f T5 (mkF m 37 #[.val (.int p1), .val (.int p2), .val (.long (own_ab p1)), .second, .val (.long (own_ab p2)), .second] [(.long (p1.toInt64)), (.long (own_ab p1))]) (fun t k => XS.i2l X5.here hx rfl (hb hby at_36) rfl k) ?_
  refine own_f T5 (mkF m 40 #[.val (.int p1), .val (.int p2), .val (.long (own_ab p1)), .second, .val (.long (own_ab p2)), .second] [(.long (16 : Int64)), (.long (p1.toInt64)), (.long (own_ab p1))]) (fun t k => X5.ldc2J hx hown (mvT hZ (own_w hw 10 rfl)) rfl (hb hby at_37) k) ?_
  refine own_f T5 (mkF m 41 #[.val (.int p1), .val (.int p2), .val (.long (own_ab p1)), .second, .val (.long (own_ab p2)), .second] [(.long ((p1.toInt64) + (16 : Int64))), (.long (own_ab p1))]) (fun t k => XS.ladd X5.here hx rfl (hb hby at_40) rfl k) ?_
  refine own_f T5 (mkF m 42 #[.val (.int p1), .val (.int p2), .val (.long (own_ab p1)), .second, .val (.long (own_ab p2)), .second] [(.int (XT.cmpL (own_ab p1) ((p1.toInt64) + (16 : Int64))))]) (fun t k => XT.lcmp X5.here hx rfl (hb hby at_41) rfl k) ?_
  have hc7 : ¬ ((own_ab p1) < ((p1.toInt64) + (16 : Int64))) := own_l2 p1
  refine own_f T5 (mkF m 47 #[.val (.int p1), .val (.int p2), .val (.long (own_ab p1)), .second, .val (.long (own_ab p2)), .second] []) (fun t k => XS.ifYes X5.here hx rfl (pc0 := 42) (pc' := 47) rfl (hb hby at_42) rfl (XT.ll_ge_t hc7) (by decide) (by decide) k) ?_
  refine own_f T5 (mkF m 48 #[.val (.int p1), .val (.int p2), .val (.long (own_ab p1)), .second, .val (.long (own_ab p2)), .second] [(.int p1)]) (fun t k => XS.iloadN X5.here hx rfl (hb hby at_47) rfl k) ?_
  refine own_f T5 (mkF m 49 #[.val (.int p1), .val (.int p2), .val (.long (own_ab p1)), .second, .val (.long (own_ab p2)), .second] [(.int p2), (.int p1)]) (fun t k => XS.iloadN X5.here hx rfl (hb hby at_48) rfl k) ?_
  by_cases hc8 : p2 < p1
  · skip
    refine own_f T5 (mkF m 61 #[.val (.int p1), .val (.int p2), .val (.long (own_ab p1)), .second, .val (.long (own_ab p2)), .second] []) (fun t k => XS.icmpYes X5.here hx rfl (pc0 := 49) (pc' := 61) rfl (hb hby at_49) rfl (XT.ii_gt_t hc8) (by decide) (by decide) k) ?_
    refine own_f T5 (mkF m 62 #[.val (.int p1), .val (.int p2), .val (.long (own_ab p1)), .second, .val (.long (own_ab p2)), .second] [(.int (1 : Int32))]) (fun t k => XT.iconstV X5.here hx rfl (1 : Int32) (hb hby at_61) (by decide) k) ?_
    obtain ⟨fs, hr, hrun, hended, hW, hsame⟩ := X5.leave (v := some (.int (1 : Int32))) (fun h => by rw [Bd.returns] at h; cases h)
    refine ⟨_, _, retN X5 hx (t := .boolean) Bd.returns (by simp) (hb hby at_62) hr, hrun, hended, _, _, rfl, ?_, ⟨_, rfl⟩, hW, hsame.mono (by decide) (by decide)⟩
    show Q0 Z p1 p2 h0 n0 _ T5.heap _
    rw [e5]
    exact ⟨rfl, N5⟩
  · skip
    refine own_f T5 (mkF m 52 #[.val (.int p1), .val (.int p2), .val (.long (own_ab p1)), .second, .val (.long (own_ab p2)), .second] []) (fun t k => XS.icmpNo X5.here hx rfl (hb hby at_49) rfl (XT.ii_gt_f hc8) k) ?_
    refine own_f T5 (mkF m 53 #[.val (.int p1), .val (.int p2), .val (.long (own_ab p1)), .second, .val (.long (own_ab p2)), .second] [(.long (own_ab p1))]) (fun t k => XS.lloadN X5.here hx rfl (hb hby at_52) rfl k) ?_
    refine own_f T5 (mkF m 55 #[.val (.int p1), .val (.int p2), .val (.long (own_ab p1)), .second, .val (.long (own_ab p2)), .second] [(.long (own_ab p2)), (.long (own_ab p1))]) (fun t k => XS.lload X5.here hx rfl (hb hby at_53) rfl k) ?_
    refine own_f T5 (mkF m 56 #[.val (.int p1), .val (.int p2), .val (.long (own_ab p1)), .second, .val (.long (own_ab p2)), .second] [(.int (XT.cmpL (own_ab p1) (own_ab p2)))]) (fun t k => XT.lcmp X5.here hx rfl (hb hby at_55) rfl k) ?_
    have hc9 : ¬ ((own_ab p2) < (own_ab p1)) := own_l3 p1 p2 hc8
    refine own_f T5 (mkF m 61 #[.val (.int p1), .val (.int p2), .val (.long (own_ab p1)), .second, .val (.long (own_ab p2)), .second] []) (fun t k => XS.ifYes X5.here hx rfl (pc0 := 56) (pc' := 61) rfl (hb hby at_56) rfl (XT.ll_le_t hc9) (by decide) (by decide) k) ?_
    refine own_f T5 (mkF m 62 #[.val (.int p1), .val (.int p2), .val (.long (own_ab p1)), .second, .val (.long (own_ab p2)), .second] [(.int (1 : Int32))]) (fun t k => XT.iconstV X5.here hx rfl (1 : Int32) (hb hby at_61) (by decide) k) ?_
    obtain ⟨fs, hr, hrun, hended, hW, hsame⟩ := X5.leave (v := some (.int (1 : Int32))) (fun h => by rw [Bd.returns] at h; cases h)
    refine ⟨_, _, retN X5 hx (t := .boolean) Bd.returns (by simp) (hb hby at_62) hr, hrun, hended, _, _, rfl, ?_, ⟨_, rfl⟩, hW, hsame.mono (by decide) (by decide)⟩
    show Q0 Z p1 p2 h0 n0 _ T5.heap _
    rw [e5]
    exact ⟨rfl, N5⟩
set_option maxRecDepth 65536 in
set_option maxHeartbeats 40000000 in
theorem comes_1 {Post : Tables → Env → Array Value → State → Outcome → State → Prop} (hpost : ∀ tb e args s v u, (limb_1_1.after args s (.returned v) u = true ∧ limb_1_2.after args s (.returned v) u = true ∧ True) → FrameEnd s (.returned v) u (Jvm.fieldLocs frame_1_writes args s ++ Jvm.arrayLocs frame_1_arrays args s ++ Jvm.staticLocs frame_1_statics s) 0 0 → Post tb e args s (.returned v) u) :
    ArmFor flags0 classFile x code maxLocals ret World_1 tables_1 room_1 Calls_1 rest_1 Pre_1 Post := by
  intro l hfl _ _ p e ha hc hk s m args below hf hA hF happ hP
  obtain ⟨hcalls, hrest, hpre⟩ := hP
  obtain ⟨-, -, -, hnamed, -, -, -, hat⟩ := (Spec.applies_iff hf).mp happ
  obtain ⟨hg, hn⟩ := and_e (Cond.before_iff.mp (show (Jvm.Cond.and given_1 narrow_1).before args s = true from hpre))
  obtain ⟨g0, r0⟩ := and_e hg
  obtain ⟨g1, r1⟩ := and_e r0
  obtain ⟨w0, w1, rfl⟩ : ∃ w0 w1 : Value, args = #[w0, w1] := by
    have hs : args.size = 2 := by simpa [Cond.value, given_1] using g0
    obtain ⟨L⟩ := args
    match L, hs with
    | [w0, w1], _ => exact ⟨w0, w1, rfl⟩
  have hw := fun d (hd : d ∈ tables_1) => atoms_spec (ws := Jvm.Cond.code x code maxLocals ret :: tables_1) hat d (List.mem_cons_of_mem _ hd)
  have hfit : Fit s := fun {y c} hc i hi => by
    obtain ⟨ha, rfl⟩ := Array.getElem?_eq_some_iff.mp hc
    have q := List.all_eq_true.mp ((Array.all_eq_true_iff_forall_mem.mp hF) _ (Array.getElem_mem ha)) i (List.mem_range.mpr hi)
    simpa [Array.getElem?_eq_getElem hi] using q
  obtain ⟨i0, ev0⟩ := is_v g1
  obtain rfl : w0 = (.int i0) := Option.some.inj ev0
  obtain ⟨i1, ev1⟩ := is_v r1
  obtain rfl : w1 = (.int i1) := Option.some.inj ev1
  obtain ⟨n, o, h1, h2, h3, _, L, rfl, ⟨rfl, N⟩, hq⟩ := rm0 l s _ hw tables_1 i0 i1 s.heap s.heap.size (Nat.le_refl _)  p e ha hc hk s m _ below hf ((Spec.applies_iff_loose hf).mp happ).1 ⟨rfl, State.Warmed39.refl s, rfl⟩ trivial
  refine ⟨n, _, h1, h2, h3, hpost _ _ _ _ _ _ ⟨Cond.after_iff.mpr rfl, Cond.after_iff.mpr (eq_i res_at (Term.int_eval (1)) rfl), trivial⟩ ⟨hq.1, hq.2.1, (hq.2.2.sift fun y hy => Or.inr (N y hy)).mono (by decide) (by decide)⟩⟩
theorem main_1_1 : Claimed_1_1 := comes_1 fun _ _ _ _ _ _ h hF => ⟨h.1, hF⟩
theorem main_1_2 : Claimed_1_2 := comes_1 fun _ _ _ _ _ _ h hF => ⟨h.2.1, hF⟩
end Jvm.Pilot.@@N@@
namespace Jvm.Pilot.@@N@@
open Jvm Jvm.ClassFile Sem Op Lib Jvm.Free Jvm.Stand Jvm.Pilot.@@N@@.Jvm.D
/-! MADE BY PROGRAM (witnessworld.py) out of the Statement's table words and the real class files: 9 classes; the members and pool entries that the words name. The judged class is class 1, her method 2. -/
namespace start1
open Jvm.ClassFile
def u (s : String) : CpInfo := .utf8 (stringToUtf16 s)
/-- a pool by its gaps: so many unusable entries, then the entry; so many at the end -/
def gap : Nat → List CpInfo → List CpInfo
  | 0, r => r
  | n + 1, r => .unusable :: gap n r
def poolList (es : List (Nat × CpInfo)) (last : Nat) : List CpInfo := es.foldr (fun e r => gap e.1 (e.2 :: r)) (gap last [])
def pool (es : List (Nat × CpInfo)) (last : Nat) : Array CpInfo := ⟨poolList es last⟩
def fileOf (pool : Array CpInfo) (this : Nat) (attrs : Array Attribute := #[]) (ms : Array MethodInfo := #[]) (fl : Nat := 33) (sup : Nat := 0) (ifs : Array Nat := #[]) (fds : Array FieldInfo := #[]) : ClassFile where
  minorVersion := 0
  majorVersion := 65
  constantPool := pool
  accessFlags := fl
  thisClass := this
  superClass := sup
  interfaces := ifs
  fields := fds
  methods := ms
  attributes := attrs
def plain (name : String) (sup : Option ClassId) : Class where
  name := name
  kind := .ordinary
  loader := none
  accessFlags := 33
  super := sup
  interfaces := #[]
  cf := none
  fields := #[]
  methods := #[]
  instanceTypes := #[]
  staticTypes := #[]
  resolved := #[]
  callSites := []
  init := .initialized
  statics := none
  mirror := none

def pool0 : Array CpInfo := pool [(5, u "<init>"), (0, u "()V"), (1, .class_ 10), (1, u "java/lang/Object")] 113

def k0m0 : Method := { name := "<init>", desc := "()V", sig := { parameters := [], returnType := none }, accessFlags := 1, code := none }
/-- java/lang/Object -/
def k0 : Class := { plain "java/lang/Object" none with
  accessFlags := 33
  interfaces := #[]
  cf := some (fileOf pool0 8 #[] #[{ accessFlags := 1, nameIndex := 5, descriptorIndex := 6, attributes := #[] }] 33 0 #[] #[])
  fields := #[]
  methods := #[k0m0]
  instanceTypes := #[]
  staticTypes := #[]
  resolved := Array.replicate 124 none
  statics := none }

def pool1 : Array CpInfo := pool [(2, .class_ 4), (1, u "java/lang/Object"), (0, u "<init>"), (0, u "()V"), (0, .long 16), (1, .integer 524271), (0, .methodref 11 12), (0, .class_ 13), (0, .nameAndType 14 15), (0, u "com/example/rulecart/rulecart/cli/Room"), (0, u "arrayBytes"), (0, u "(I)J"), (0, .methodref 17 18), (0, .class_ 19), (0, .nameAndType 20 15), (0, u "com/example/rulecart/rulecart/cli/RoomArrayBytesPinLaw"), (0, u "expected"), (3, u "law"), (0, u "(II)Z")] 2

def k1m0 : Method := { name := "<init>", desc := "()V", sig := { parameters := [], returnType := none }, accessFlags := 1, code := none }
def k1c1 : Code := { maxStack := 4, maxLocals := 3, code := method_2_code, exceptionTable := #[], attributes := #[] }
def k1m1 : Method := { name := "expected", desc := "(I)J", sig := { parameters := [.int], returnType := some .long }, accessFlags := 10, code := some k1c1 }
def k1c2 : Code := { maxStack := 6, maxLocals := 6, code := code, exceptionTable := #[], attributes := #[] }
def k1m2 : Method := { name := "law", desc := "(II)Z", sig := { parameters := [.int, .int], returnType := some .boolean }, accessFlags := 9, code := some k1c2 }
/-- com/example/rulecart/rulecart/cli/RoomArrayBytesPinLaw -/
def k1 : Class := { plain "com/example/rulecart/rulecart/cli/RoomArrayBytesPinLaw" (some 0) with
  accessFlags := 49
  interfaces := #[]
  cf := some (fileOf pool1 17 #[] #[{ accessFlags := 1, nameIndex := 5, descriptorIndex := 6, attributes := #[] }, { accessFlags := 10, nameIndex := 20, descriptorIndex := 15, attributes := #[] }, { accessFlags := 9, nameIndex := 24, descriptorIndex := 25, attributes := #[] }] 49 2 #[] #[])
  fields := #[]
  methods := #[k1m0, k1m1, k1m2]
  instanceTypes := #[]
  staticTypes := #[]
  resolved := Array.replicate 28 none
  statics := none }

def pool2 : Array CpInfo := pool [(2, .class_ 4), (1, u "java/lang/Object"), (8, .class_ 15), (1, u "com/example/rulecart/rulecart/cli/Room"), (0, u "untaken"), (0, u "Ljava/util/concurrent/Semaphore;"), (2, u "kib"), (0, u "I"), (2, u "heap"), (0, u "Lcom/example/rulecart/rulecart/cli/FreeHeap;"), (2, u "heapKept"), (0, u "J"), (0, .long 16), (1, .long 524288), (1, .long 2), (5, .class_ 41), (0, u "com/example/rulecart/rulecart/cli/Room$Place"), (13, u "WAITING_KIB"), (2, u "OWN_REGIONS_BYTES"), (6, u "arrayBytes"), (0, u "(I)J")] 10

def k2c0 : Code := { maxStack := 4, maxLocals := 3, code := prog_118_method_4_code, exceptionTable := #[], attributes := #[] }
def k2m0 : Method := { name := "arrayBytes", desc := "(I)J", sig := { parameters := [.int], returnType := some .long }, accessFlags := 8, code := some k2c0 }
/-- com/example/rulecart/rulecart/cli/Room -/
def k2 : Class := { plain "com/example/rulecart/rulecart/cli/Room" (some 0) with
  accessFlags := 48
  interfaces := #[]
  cf := some (fileOf pool2 13 #[.nestMembers #[40]] #[{ accessFlags := 8, nameIndex := 65, descriptorIndex := 66, attributes := #[] }] 48 2 #[] #[{ accessFlags := 26, nameIndex := 55, descriptorIndex := 21, attributes := #[] }, { accessFlags := 26, nameIndex := 58, descriptorIndex := 21, attributes := #[] }, { accessFlags := 18, nameIndex := 16, descriptorIndex := 17, attributes := #[] }, { accessFlags := 18, nameIndex := 20, descriptorIndex := 21, attributes := #[] }, { accessFlags := 18, nameIndex := 24, descriptorIndex := 25, attributes := #[] }, { accessFlags := 18, nameIndex := 28, descriptorIndex := 29, attributes := #[] }])
  fields := #[{ name := "WAITING_KIB", type := .int, accessFlags := 26, slot := 0, constantValue := 0 }, { name := "OWN_REGIONS_BYTES", type := .int, accessFlags := 26, slot := 1, constantValue := 0 }, { name := "untaken", type := (.object "java/util/concurrent/Semaphore"), accessFlags := 18, slot := 0, constantValue := 0 }, { name := "kib", type := .int, accessFlags := 18, slot := 1, constantValue := 0 }, { name := "heap", type := (.object "com/example/rulecart/rulecart/cli/FreeHeap"), accessFlags := 18, slot := 2, constantValue := 0 }, { name := "heapKept", type := .long, accessFlags := 18, slot := 3, constantValue := 0 }]
  methods := #[k2m0]
  instanceTypes := #[(.object "java/util/concurrent/Semaphore"), .int, (.object "com/example/rulecart/rulecart/cli/FreeHeap"), .long]
  staticTypes := #[.int, .int]
  resolved := Array.replicate 77 none
  statics := none }

def pool3 : Array CpInfo := pool [(1, u "java/lang/Cloneable"), (0, .class_ 1), (0, u "java/lang/Object"), (0, .class_ 3)] 3

/-- java/lang/Cloneable -/
def k3 : Class := { plain "java/lang/Cloneable" (some 0) with
  accessFlags := 1537
  interfaces := #[]
  cf := some (fileOf pool3 2 #[] #[] 1537 4 #[] #[])
  fields := #[]
  methods := #[]
  instanceTypes := #[]
  staticTypes := #[]
  resolved := Array.replicate 8 none
  statics := none }

def pool4 : Array CpInfo := pool [(1, u "java/io/Serializable"), (0, .class_ 1), (0, u "java/lang/Object"), (0, .class_ 3)] 3

/-- java/io/Serializable -/
def k4 : Class := { plain "java/io/Serializable" (some 0) with
  accessFlags := 1537
  interfaces := #[]
  cf := some (fileOf pool4 2 #[] #[] 1537 4 #[] #[])
  fields := #[]
  methods := #[]
  instanceTypes := #[]
  staticTypes := #[]
  resolved := Array.replicate 8 none
  statics := none }

/-- the primitive byte -/
def k5 : Class := { plain "byte" none with kind := .primitive 'B', accessFlags := 0x411 }
/-- [B -/
def k6 : Class := { plain "[B" (some 0) with kind := .array 5 .byte, interfaces := #[3, 4], accessFlags := 1041 }

/-- the primitive int -/
def k7 : Class := { plain "int" none with kind := .primitive 'I', accessFlags := 0x411 }
/-- [I -/
def k8 : Class := { plain "[I" (some 0) with kind := .array 7 .int, interfaces := #[3, 4], accessFlags := 1041 }

def heap : Heap := #[]
def classes : Array Class := #[k0, k1, k2, k3, k4, k5, k6, k7, k8]
def interned : List (Array UInt16 × Addr) := []
def slotsUsed : Nat := 0
def theMethod : MethodId := ⟨1, 2⟩
def args0 : Array Value := #[.int 5, .int 600000]
def aboutOver (below : List Frame) : State where
  vm := { classes := classes, interned := interned.toArray }
  heap := heap
  slotsUsed := slotsUsed
  threads := #[{ frames := .invoking theMethod args0 :: below }]
def below0 : List Frame := [.native { method := ⟨0, 0⟩, args := #[] }]
def about1 : State := aboutOver below0
def p0 : Program := .bare "" "" ""
def e0 : Env := launch0.env 0 0 0
theorem w_frames : about1.frames = Frame.invoking theMethod args0 :: below0 := rfl
set_option maxRecDepth 65536 in
theorem w_args : argsFit about1.vm theMethod args0 = true := by decide +kernel
set_option maxRecDepth 65536 in
theorem w_heap : heapFits about1 = true := by decide +kernel
set_option maxRecDepth 65536 in
theorem w_runnable : about1.curStatus? = some .runnable := by decide +kernel
set_option maxRecDepth 65536 in
theorem w_alone : about1.alone = true := by decide +kernel
set_option maxRecDepth 65536 in
theorem w_named : about1.methodNamed? x = some theMethod := by decide +kernel
set_option maxRecDepth 65536 in
theorem w_hears : about1.hears theMethod below0 = true := by decide +kernel
set_option maxRecDepth 65536 in
theorem w_ripe : about1.ripe theMethod args0 below0 = true := by decide +kernel
theorem w_running : about1.status = .running := rfl
set_option maxRecDepth 65536 in
theorem w_room : about1.hasRoom e0.platform room_1 = true :=
  launch0.hasRoom_least _ room_1 (by decide +kernel) (by decide +kernel) (by decide +kernel) (by decide +kernel) (by decide +kernel) (by decide +kernel)
theorem allAtoms_all (ts : List Jvm.Cond) (a : Array Jvm.Value) (st : Jvm.State) : (allAtoms ts).before a st = ts.all (fun c => c.before a st) := by
  induction ts with
  | nil => rfl
  | cons c t ih =>
    show (Jvm.Cond.and c (allAtoms t)).before a st = _
    rw [Jvm.Cond.before_and, ih, List.all_cons]
def words1 : List Jvm.Cond := Jvm.Cond.code x code maxLocals ret :: tables_1
/-- a 'code' word, met by the world's own term for the bytes: nothing is compared byte by byte -/
theorem code_word {y : MethodName} {bytes : ByteArray} {mx : Nat} {rt : Option FieldType} {a : Array Value} {s : State} {m : MethodId} {meth : Method} {c : Code} (h1 : s.methodNamed? y = some m) (h2 : s.vm.method? m = some meth) (h3 : meth.code = some c) (h4 : c.code = bytes)
    (h5 : (c.maxLocals == mx && c.exceptionTable.isEmpty && decide (c.maxStack ≤ mostOperands) && decide (meth.sig.returnType = rt) && !meth.locks && decide (parseMethodDescriptor y.desc = some meth.sig)) = true) : (Jvm.Cond.code y bytes mx rt).before a s = true := by
  simp only [Bool.and_eq_true, beq_iff_eq, Bool.not_eq_true', decide_eq_true_eq] at h5
  obtain ⟨⟨⟨⟨⟨g1, g2⟩, g3⟩, g4⟩, g5⟩, g6⟩ := h5
  simp [Cond.before, Cond.holds, Cond.value, h1, h2, h3, h4, g1, g2, g3, g4, g5, g6]
def isCode : Jvm.Cond → Bool
  | .code _ _ _ _ => true
  | _ => false
theorem all_split {L : List Jvm.Cond} {P : Jvm.Cond → Bool} (h1 : L.all (fun c => isCode c || P c) = true) (h2 : ∀ c ∈ L.filter isCode, P c = true) : L.all P = true := by
  refine List.all_eq_true.mpr fun c hc => ?_
  have h := List.all_eq_true.mp h1 c hc
  rcases Bool.eq_false_or_eq_true (isCode c) with hi | hi
  · exact h2 c (List.mem_filter.mpr ⟨hc, hi⟩)
  · simpa [hi] using h
set_option maxRecDepth 65536 in
theorem w_c0 : (Jvm.Cond.code x code maxLocals ret).before args0 about1 = true := code_word (m := ⟨1, 2⟩) (meth := k1m2) (c := k1c2) (by decide +kernel) rfl rfl rfl (by decide +kernel)
set_option maxRecDepth 65536 in
theorem w_c1 : (Jvm.Cond.code ({ cls := "com/example/rulecart/rulecart/cli/Room", name := "arrayBytes", desc := "(I)J" } : Jvm.MethodName) prog_118_method_4_code (3 : Nat) (Option.some Jvm.ClassFile.FieldType.long)).before args0 about1 = true := code_word (m := ⟨2, 0⟩) (meth := k2m0) (c := k2c0) (by decide +kernel) rfl rfl rfl (by decide +kernel)
set_option maxRecDepth 65536 in
theorem w_c2 : (Jvm.Cond.code ({ cls := "com/example/rulecart/rulecart/cli/RoomArrayBytesPinLaw", name := "expected", desc := "(I)J" } : Jvm.MethodName) method_2_code (3 : Nat) (Option.some Jvm.ClassFile.FieldType.long)).before args0 about1 = true := code_word (m := ⟨1, 1⟩) (meth := k1m1) (c := k1c1) (by decide +kernel) rfl rfl rfl (by decide +kernel)
def codes1 : List Jvm.Cond := [Jvm.Cond.code x code maxLocals ret, Jvm.Cond.code ({ cls := "com/example/rulecart/rulecart/cli/Room", name := "arrayBytes", desc := "(I)J" } : Jvm.MethodName) prog_118_method_4_code (3 : Nat) (Option.some Jvm.ClassFile.FieldType.long), Jvm.Cond.code ({ cls := "com/example/rulecart/rulecart/cli/RoomArrayBytesPinLaw", name := "expected", desc := "(I)J" } : Jvm.MethodName) method_2_code (3 : Nat) (Option.some Jvm.ClassFile.FieldType.long)]
set_option maxRecDepth 65536 in
theorem codes_eq : words1.filter isCode = codes1 := rfl
theorem w_codes : ∀ c ∈ words1.filter isCode, c.before args0 about1 = true := by
  rw [codes_eq]
  intro c hc
  simp only [codes1, List.mem_cons, List.not_mem_nil, or_false] at hc
  rcases hc with rfl | rfl | rfl
  · exact w_c0
  · exact w_c1
  · exact w_c2
set_option maxRecDepth 65536 in
theorem w_t1 : words1.all (fun c => isCode c || c.before args0 about1) = true := by decide +kernel
theorem w_tables : (allAtoms (Jvm.Cond.code x code maxLocals ret :: tables_1)).before args0 about1 = true := by
  rw [allAtoms_all]
  show words1.all (fun c => c.before args0 about1) = true
  refine all_split ?_ w_codes
  rw [w_t1]
set_option maxRecDepth 65536 in
theorem w_case : (Jvm.Cond.and given_1 narrow_1).before args0 about1 = true := by decide +kernel
theorem w_applies : (headSpec (Jvm.Cond.code x code maxLocals ret :: tables_1) room_1).applies x e0.platform about1 = true :=
  (Spec.applies_iff w_frames).mpr ⟨w_running, w_runnable, w_alone, w_named, w_hears, w_ripe, w_room, w_tables⟩
theorem atStart : AtStart classFile x code maxLocals ret World_1 tables_1 room_1 Calls_1 rest_1 Pre_1 launch0 p0 e0 about1 theMethod args0 below0 :=
  ⟨lists_1, trivial, launch0.admits_env _ _ _, launch0.least_env, fairChoices_fair.cas, fairChoices_fair.clock, w_frames, w_args, w_heap, w_applies, trivial, trivial, w_case⟩
end start1
theorem witness_1 : WitnessClaimed_1 := ⟨start1.p0, start1.e0, start1.about1, start1.theMethod, start1.args0, start1.below0, start1.atStart⟩
end Jvm.Pilot.@@N@@
