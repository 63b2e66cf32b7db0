import JvmDerived
import JvmDerived.Pilot.@@N@@Statement
import JvmDerived.Pilot.@@N@@Code
set_option linter.unusedVariables false
set_option linter.unusedSimpArgs false
namespace Jvm.RoadKit
open Sem ClassFile Op Lib Jvm.Stand Jvm.Free Jvm.LawKit
section New
variable {p : Program} {l : Launch} {e : Env} {R : Room} {s : State} {m : MethodId} {args : Array Value} {below : List Frame} {meth : Method} {c : Code} {T : State} {locs : List Loc} {cells slots : Nat}
theorem retI (X : Stand p l e R s m args below meth c T locs cells slots) (hx : p.tables.exec = Jvm.exec) {pc : Nat} {Ls : Array Slot} {z : Int32} {rest : List Value} (hret : meth.sig.returnType = some .int) (hd : decode c.code pc = .ok (.ireturn, 1)) {fs : List Frame}
    (hl : ∀ (f : JFrame) (acts : List Action), f.method = m → f.locked = none → f.entered = [] → (doReturn e (T.setTop f) acts (some (.int z))).1 = T.setFrames fs) : Steps p.tables e below (T.setTop (mkF m pc Ls (.int z :: rest))) (T.setFrames fs) := by
  have hm' : T.vm.method? m = some meth := X.method'
  have hn : narrow .int (.int z) = .int z := rfl
  show Steps p.tables e below (T.setTop { method := m, pc := pc, locals := Ls, stack := _ :: rest, locked := none }) _
  jvm_step X.here [X.here.top, hx, hd, hm', hret, hn]
  first | (intro acts; rw [hl _ acts rfl rfl rfl]) | rw [hl _ _ rfl rfl rfl]
  exact Steps.refl _
/-- a boolean, byte, char or short that is one already -/
theorem own_retB (X : Stand p l e R s m args below meth c T locs cells slots) (hx : p.tables.exec = Jvm.exec) {pc : Nat} {Ls : Array Slot} {z : Int32} {t : FieldType} {rest : List Value} (hret : meth.sig.returnType = some t) (ht : t = .boolean ∨ t = .byte ∨ t = .char ∨ t = .short) (hz : nar t z = z)
    (hd : decode c.code pc = .ok (.ireturn, 1)) {fs : List Frame} (hl : ∀ (f : JFrame) (acts : List Action), f.method = m → f.locked = none → f.entered = [] → (doReturn e (T.setTop f) acts (some (.int z))).1 = T.setFrames fs) :
    Steps p.tables e below (T.setTop (mkF m pc Ls (.int z :: rest))) (T.setFrames fs) := retN X hx hret ht hd (by rw [hz]; exact hl)
theorem own_retL (X : Stand p l e R s m args below meth c T locs cells slots) (hx : p.tables.exec = Jvm.exec) {pc : Nat} {Ls : Array Slot} {z : Int64} {rest : List Value} (hret : meth.sig.returnType = some .long) (hd : decode c.code pc = .ok (.lreturn, 1)) {fs : List Frame}
    (hl : ∀ (f : JFrame) (acts : List Action), f.method = m → f.locked = none → f.entered = [] → (doReturn e (T.setTop f) acts (some (.long z))).1 = T.setFrames fs) : Steps p.tables e below (T.setTop (mkF m pc Ls (.long z :: rest))) (T.setFrames fs) :=
  retOut X hx hret rfl (Or.inr (Or.inl ⟨rfl, rfl, z, rfl⟩)) hd hl
end New
end Jvm.RoadKit
namespace Jvm.Pilot.@@N@@
open Jvm Jvm.ClassFile Sem Op Lib Jvm.Free Jvm.Stand Jvm.LawKit Jvm.RoadKit Bundle Jvm.Pilot.@@N@@.Jvm.D
theorem own_w {a0 : Array Value} {Z : State} (hw : ∀ d ∈ tables_1, d.before a0 Z = true) (i : Nat) {d : Jvm.Cond} (h : tables_1[i]? = some d) : d.before a0 Z = true := hw _ (List.mem_of_getElem? h)
/-- from A the walk comes to an end that P takes -/
abbrev own_R (tb : Tables) (e : Env) (below : List Frame) (P : State → Outcome → Prop) (A : State) : Prop := ∃ t o, Steps tb e below A t ∧ t.status = .running ∧ Ended t below o ∧ P t o
abbrev own_P (s : State) (Q : Option Value → Heap → List Loc → Prop) (k n : Nat) (t : State) (o : Outcome) : Prop := ∃ v L, o = .returned v ∧ Q v t.heap L ∧ FrameEnd s o t L k n
abbrev own_PW (s : State) (Q : Option Value → Heap → List Loc → Prop) (k n : Nat) (t : State) (o : Outcome) : Prop := ∃ v L, o = .returned v ∧ Q v t.heap L ∧ ReturnedEndW s o t L k n
theorem own_step {tb : Tables} {e : Env} {below : List Frame} {P : State → Outcome → Prop} {A A' : State} (st : ∀ t, Steps tb e below A' t → Steps tb e below A t) (h : own_R tb e below P A') : own_R tb e below P A := by
  obtain ⟨t, o, h1, h2⟩ := h
  exact ⟨t, o, st t h1, h2⟩
theorem own_go {tb : Tables} {e : Env} {below : List Frame} {P : State → Outcome → Prop} {A A' : State} (st : Steps tb e below A A') (h : own_R tb e below P A') : own_R tb e below P A := own_step (fun _ k => st.trans k) h
theorem own_f {tb : Tables} {e : Env} {below : List Frame} {P : State → Outcome → Prop} {A : State} (T : State) (g : JFrame) (st : ∀ t, Steps tb e below (T.setTop g) t → Steps tb e below A t) (h : own_R tb e below P (T.setTop g)) : own_R tb e below P A := own_step st h
theorem own_g {tb : Tables} {e : Env} {below : List Frame} {P : State → Outcome → Prop} {A : State} (T : State) (g : JFrame) (st : Steps tb e below A (T.setTop g)) (h : own_R tb e below P (T.setTop g)) : own_R tb e below P A := own_go st h
theorem own_lsw {tb : Tables} [Ours tb] {e : Env} {below : List Frame} {T target : State} {m : MethodId} {c : Code} {g : JFrame} (h : At T m c below) (hx : tb.exec = Jvm.exec) (hg : g.method = m) {df : Int} {ps : Array (Int × Int)} {len : Nat} {o : Int} {pc0 pc' : Nat} (hpc : g.pc = pc0) (hd : decode c.code g.pc = .ok (.lookupswitch df ps, len)) {i : Int32} {rest : List Value} (hs : g.stack = .int i :: rest)
    (hord : (ps.toList.zip (ps.toList.drop 1)).all (fun (a, next) => a.1 < next.1) = true) (hoff : lookupswitch.offset ps.toList df i.toInt = o) (ho : 0 ≤ (pc0 : Int) + o) (hp : ((pc0 : Int) + o).toNat = pc')
    (hr : Steps tb e below (T.setTop { g with pc := pc', stack := rest }) target) : Steps tb e below (T.setTop g) target := by
  subst hg hpc hp
  jvm_step h [h.top, hx, hd, hs, hoff, ho, lookupswitch.wp_chain]
  exact ⟨by simpa using hord, hr⟩
theorem own_len {p : Program} {l : Launch} {e : Env} {R : Room} {s : State} {m : MethodId} {args : Array Value} {below : List Frame} {meth : Method} {c : Code} {T target : State} {locs : List Loc} {cells slots : Nat} {Z : State} {h : Heap} {a : Addr} {k : ClassId} {ty : FieldType} {z : Int32} {vs : List Value} {dv : Value}
    (X : Stand p l e R s m args below meth c T locs cells slots) (hx : p.tables.exec = Jvm.exec) (hZ : Z.Warmed39 s.vm) (eT : T.heap = h) (F : Arv Z h a k ty z vs dv) {g : JFrame} (hg : g.method = m) {rest : List Value} (hs : g.stack = .ref a :: rest) (hd : decode c.code g.pc = .ok (.arraylength, 1))
    (hr : Steps p.tables e below (T.setTop { g with pc := g.pc + 1, stack := .int z :: rest }) target) : Steps p.tables e below (T.setTop g) target := by
  obtain ⟨cl, A, -, S, q, -⟩ := F
  exact X.arraylength hx (by rw [eT]; exact A.1) (State.isArrayOf_alike hZ.alike A.2.1) hg hs hd _ (by rw [len_of S q]; exact hr)
theorem own_arvnew {Z : State} {h : Heap} {a : Addr} {k : ClassId} {ty : FieldType} {z : Int32} (n : Nat) (A : Arr Z h a (newA k ty z) ty) (q : ¬ z < 0) : Arv Z h a k ty z (List.replicate n (defaultValue ty)) (defaultValue ty) := (Arv.new A q).pad fun i => pad_rep [] _ n i
theorem own_narB (x : Int32) : nar .byte x.toInt8.toInt32 = x.toInt8.toInt32 := by show x.toInt8.toInt32.toInt8.toInt32 = _; simp
theorem own_narC (x : Int32) : nar .char x.toUInt32.toUInt16.toUInt32.toInt32 = x.toUInt32.toUInt16.toUInt32.toInt32 := by show x.toUInt32.toUInt16.toUInt32.toInt32.toUInt32.toUInt16.toUInt32.toInt32 = _; simp only [UInt32.toUInt32_toInt32, UInt16.toUInt16_toUInt32]
theorem own_fitB (x : Int32) : fits .byte (.int (nar .byte x)) = true := fits_nar_byte x
theorem own_nb {z : Int32} (h : z = 0 ∨ z = 1) : narrow .boolean (.int z) = .int z := by rcases h with rfl | rfl <;> rfl
theorem own_fb {z : Int32} (h : z = 0 ∨ z = 1) : fits .boolean (.int z) = true := by rcases h with rfl | rfl <;> rfl
theorem own_nar {z : Int32} (h : z = 0 ∨ z = 1) : nar .boolean z = z := by rcases h with rfl | rfl <;> rfl
def own_b (q : Prop) [Decidable q] : Int32 := if q then 1 else 0
theorem own_b0 {z : Int32} (h : z = 0) : (some (.int (0 : Int32)) : Option Value) = some (.int z) := by rw [h]
theorem own_b1 {q : Prop} [Decidable q] (h : ¬ own_b q = 0) : (some (.int (1 : Int32)) : Option Value) = some (.int (own_b q)) := by
  unfold own_b at *
  split at h
  · rename_i z; rw [if_pos z]
  · exact absurd rfl h
def own_vs (n c0 c1 : Int32) : List Value := if n = 0 then [] else if n = 1 then [.int (c0.toInt8.toInt32)] else [.int (c0.toInt8.toInt32), .int (c1.toInt8.toInt32)]
theorem own_vs0 {c0 c1 : Int32} : own_vs (0 : Int32) c0 c1 = [] := rfl
theorem own_vs1 {c0 c1 : Int32} : own_vs (1 : Int32) c0 c1 = [.int (c0.toInt8.toInt32)] := rfl
theorem own_vs2 {c0 c1 : Int32} : own_vs (2 : Int32) c0 c1 = [.int (c0.toInt8.toInt32), .int (c1.toInt8.toInt32)] := rfl
def own_S (Z : State) (h : Heap) (a : Addr) (n c0 c1 : Int32) : Prop := ∃ (d : Addr) (k : ClassId), Exa Z h a "java/lang/String" ∧ Fld Z h a "java/lang/String" "coder" "B" (.int (0 : Int32)) ∧ Fld Z h a "java/lang/String" "value" "[B" (.ref d) ∧ Arv Z h d k .byte n (own_vs n c0 c1) (.int 0)
theorem own_S.lt {Z : State} {h : Heap} {a : Addr} {n c0 c1 : Int32} (G : own_S Z h a n c0 c1) : a < h.size := by obtain ⟨d, k, E, -⟩ := G; exact E.lt
theorem own_S.keep {Z : State} {h h' : Heap} {a : Addr} {n c0 c1 : Int32} (G : own_S Z h a n c0 c1) (K : Keep h h' []) : own_S Z h' a n c0 c1 := by
  obtain ⟨d, k, E, Fc, Fv, A⟩ := G
  exact ⟨d, k, E.keep K, Fc.keep K nin0, Fv.keep K nin0, A.keep K nin0⟩
def own_B (c : Int32) : Prop := ¬ (c < (0 : Int32)) ∧ ¬ ((255 : Int32) < c)
theorem own_BI {c : Int32} (h : own_B c) : 0 ≤ c.toInt ∧ c.toInt ≤ 255 := by
  obtain ⟨h1, h2⟩ := h
  rw [Int32.lt_iff_toInt_lt] at h1 h2
  have e0 : (0 : Int32).toInt = 0 := rfl
  have e1 : (255 : Int32).toInt = 255 := rfl
  omega
theorem own_B.nar {c : Int32} (h : own_B c) : nar .char c = c := by
  have g := own_BI h
  show c.toUInt32.toUInt16.toUInt32.toInt32 = c
  apply Int32.toInt_inj.mp
  have q := c_i2c c
  omega
theorem own_Bc (x : Int32) : own_B ((x &&& (255 : Int32)).toUInt32.toUInt16.toUInt32.toInt32) := by
  have q := c_i2c (x &&& (255 : Int32))
  have m := c_mask x 255 8 (by decide) (by decide)
  have e0 : (0 : Int32).toInt = 0 := rfl
  have e1 : (255 : Int32).toInt = 255 := rfl
  constructor <;> rw [Int32.lt_iff_toInt_lt] <;> omega
theorem own_rem (x : Int32) : ((x &&& (3 : Int32)) % (3 : Int32)) = 0 ∨ ((x &&& (3 : Int32)) % (3 : Int32)) = 1 ∨ ((x &&& (3 : Int32)) % (3 : Int32)) = 2 := by
  have m := c_mask x 3 2 (by decide) (by decide)
  have q := (c_irem (x &&& (3 : Int32)) 3 3 rfl).1 (by rw [m]; omega)
  have e0 : (0 : Int32).toInt = 0 := rfl
  have e1 : (1 : Int32).toInt = 1 := rfl
  have e2 : (2 : Int32).toInt = 2 := rfl
  simp only [← Int32.toInt_inj]
  rw [q, e0, e1, e2]
  omega
theorem own_inj {c d : Int32} (hc : own_B c) (hd : own_B d) : (c.toInt8.toInt32) = (d.toInt8.toInt32) ↔ c = d := by
  constructor
  · intro h
    have h1 := c_i2b c
    have h2 := c_i2b d
    rw [h] at h1
    have g1 := own_BI hc
    have g2 := own_BI hd
    apply Int32.toInt_inj.mp
    omega
  · intro h; rw [h]
def own_eqS (n1 n2 c0 c1 d0 d1 : Int32) : Int32 := if n1 = n2 ∧ (n1 < (1 : Int32) ∨ c0 = d0) ∧ (n1 < (2 : Int32) ∨ c1 = d1) then 1 else 0
theorem own_ex {n1 n2 c0 c1 d0 d1 : Int32} (h : ¬ n1 = n2) : own_eqS n1 n2 c0 c1 d0 d1 = (0 : Int32) := if_neg fun z => h z.1
theorem own_e0 {c0 c1 d0 d1 : Int32} : own_eqS 0 0 c0 c1 d0 d1 = own_b True := by rw [own_eqS, if_pos ⟨rfl, Or.inl (by decide), Or.inl (by decide)⟩] <;> rfl
theorem own_bc {p q : Prop} [Decidable p] [Decidable q] (h : p ↔ q) : own_b p = own_b q := by
  unfold own_b
  by_cases z : p
  · rw [if_pos z, if_pos (h.mp z)]
  · rw [if_neg z, if_neg (fun y => z (h.mpr y))]
theorem own_e1 {c0 c1 d0 d1 : Int32} (B0 : own_B c0) (D0 : own_B d0) : own_eqS 1 1 c0 c1 d0 d1 = own_b ((c0.toInt8.toInt32) = (d0.toInt8.toInt32)) := by
  show own_b _ = _
  apply own_bc
  rw [own_inj B0 D0]
  exact ⟨fun z => z.2.1.elim (fun y => absurd y (by decide)) id, fun z => ⟨rfl, Or.inr z, Or.inl (by decide)⟩⟩
theorem own_e2 {c0 c1 d0 d1 : Int32} (B0 : own_B c0) (B1 : own_B c1) (D0 : own_B d0) (D1 : own_B d1) : own_eqS 2 2 c0 c1 d0 d1 = own_b ((c0.toInt8.toInt32) = (d0.toInt8.toInt32) ∧ (c1.toInt8.toInt32) = (d1.toInt8.toInt32)) := by
  show own_b _ = _
  apply own_bc
  rw [own_inj B0 D0, own_inj B1 D1]
  exact ⟨fun z => ⟨z.2.1.elim (fun y => absurd y (by decide)) id, z.2.2.elim (fun y => absurd y (by decide)) id⟩, fun z => ⟨rfl, Or.inr z.1, Or.inr z.2⟩⟩
theorem own_eqS1 {n1 n2 c0 c1 d0 d1 : Int32} (h : ¬ (own_eqS n1 n2 c0 c1 d0 d1) = 0) : (some (.int (1 : Int32)) : Option Value) = some (.int (own_eqS n1 n2 c0 c1 d0 d1)) := own_b1 (q := n1 = n2 ∧ (n1 < (1 : Int32) ∨ c0 = d0) ∧ (n1 < (2 : Int32) ∨ c1 = d1)) h
theorem own_str {a0 : Array Value} {Z : State} (hw : ∀ d ∈ tables_1, d.before a0 Z = true) : ∀ a ∈ Bundle.stringAtoms, a.before a0 Z = true := by
  intro a ha
  simp only [Bundle.stringAtoms, List.mem_cons, List.not_mem_nil, or_false] at ha
  rcases ha with rfl | rfl | rfl | rfl | rfl | rfl | rfl
  · exact (own_w hw 10 rfl)
  · exact (own_w hw 9 rfl)
  · exact (own_w hw 23 rfl)
  · exact (own_w hw 24 rfl)
  · exact (own_w hw 25 rfl)
  · exact (own_w hw 26 rfl)
  · exact (own_w hw 27 rfl)
def own_EL : List (String × Nat) := [("java/lang/String", 7)]
abbrev own_PH (Z s : State) (Q : Option Value → Heap → List Loc → Prop) (k n : Nat) (t : State) (o : Outcome) : Prop := ∃ v L, o = .returned v ∧ Q v t.heap L ∧ CHr Z own_EL s.vm s.heap t.vm t.heap ∧ ReturnedEndW s o t L k n
theorem own_safe {Z : State} {EL : List (String × Nat)} {vm : Vm} {h : Heap} {x : Addr} (hal : Z.vm.Alike vm) (E : Exa Z h x "java/lang/String") (F : Fld Z h x "java/lang/String" "value" "[B" .null) : Safe Z EL vm h x := fun B => by
  obtain ⟨p, -, u, a, -, q, -, G, rfl | rfl⟩ := B
  · obtain ⟨cell, cf, k, i, f, h1, h2, -, -, -, -, h7⟩ := F
    cases (show h[q.sa]? = some q.sC from G.ha).symm.trans h1
    obtain ⟨cS, ⟨⟨-, -, -, ⟨c1, k1, i1, f1, -⟩, -, -, -, v1, -⟩, -⟩, -⟩ := G
    obtain ⟨k3, e3, -⟩ := State.fieldFound?_setVm (s := Z) hal h2
    have e4 := (show (Wst Z vm h).fieldFound? _ _ _ = _ from e3).symm.trans f1
    simp only [Option.some.injEq, Prod.mk.injEq] at e4
    rw [← e4.2.2.2, h7] at v1
    cases v1
  · obtain ⟨cell, k, e1, e2, e3, -, -⟩ := E
    cases (show h[q.sd]? = some q.SA from G.hd).symm.trans e1
    obtain ⟨cS, -, -, f, -⟩ := G
    have f' : Z.vm.findClass "[B" = some q.SA.cls := by rw [← hal.findClass]; exact f
    obtain ⟨k1, q1, q2⟩ := Vm.findClass_spec f'
    obtain ⟨k2, q3, q4⟩ := Vm.findClass_spec e2
    cases q1.symm.trans q3
    have := q2.symm.trans q4
    exact absurd this (by decide)
theorem own_EW {a0 : Array Value} {Z : State} (hw : ∀ d ∈ tables_1, d.before a0 Z = true) : EW Z a0 own_EL := EW.cons (own_w hw 22 rfl) (by decide) EW.nil
theorem pd__ICC_Ljava_lang_String_ : parseMethodDescriptor "(ICC)Ljava/lang/String;" = some ⟨[.int, .char, .char], some (.object "java/lang/String")⟩ := by decide +kernel
theorem pd__Ljava_lang_Object_Z : parseMethodDescriptor "(Ljava/lang/Object;)Z" = some ⟨[(.object "java/lang/Object")], some .boolean⟩ := by decide +kernel
theorem pd__Ljava_lang_String_Ljava_lang_String_Z : parseMethodDescriptor "(Ljava/lang/String;Ljava/lang/String;)Z" = some ⟨[(.object "java/lang/String"), (.object "java/lang/String")], some .boolean⟩ := by decide +kernel
theorem pd__BI_B : parseMethodDescriptor "([BI)B" = some ⟨[(.array .byte), .int], some .byte⟩ := by decide +kernel
theorem pd__B_B_Z : parseMethodDescriptor "([B[B)Z" = some ⟨[(.array .byte), (.array .byte)], some .boolean⟩ := by decide +kernel
theorem pd__C_V : parseMethodDescriptor "([C)V" = some ⟨[(.array .char)], none⟩ := by decide +kernel
theorem pd__CII_B : parseMethodDescriptor "([CII)[B" = some ⟨[(.array .char), .int, .int], some (.array .byte)⟩ := by decide +kernel
theorem pd__CIILjava_lang_Void_V : parseMethodDescriptor "([CIILjava/lang/Void;)V" = some ⟨[(.array .char), .int, .int, (.object "java/lang/Void")], none⟩ := by decide +kernel
theorem pd__CI_BII_I : parseMethodDescriptor "([CI[BII)I" = some ⟨[(.array .char), .int, (.array .byte), .int, .int], some .int⟩ := by decide +kernel
theorem dci1_0 : decode jdk_52_method_21_code 0 = .ok (.iconst 0, 1) := by decide +kernel
theorem dci1_1 : decode jdk_52_method_21_code 1 = .ok (.istore 5, 2) := by decide +kernel
theorem dci1_3 : decode jdk_52_method_21_code 3 = .ok (.iload 5, 2) := by decide +kernel
theorem dci1_5 : decode jdk_52_method_21_code 5 = .ok (.iload 4, 2) := by decide +kernel
theorem dci1_7 : decode jdk_52_method_21_code 7 = .ok (.if_icmp .ge 37, 3) := by decide +kernel
theorem dci1_10 : decode jdk_52_method_21_code 10 = .ok (.aload_n 0, 1) := by decide +kernel
theorem dci1_11 : decode jdk_52_method_21_code 11 = .ok (.iload_n 1, 1) := by decide +kernel
theorem dci1_12 : decode jdk_52_method_21_code 12 = .ok (.caload, 1) := by decide +kernel
theorem dci1_13 : decode jdk_52_method_21_code 13 = .ok (.istore 6, 2) := by decide +kernel
theorem dci1_15 : decode jdk_52_method_21_code 15 = .ok (.iload 6, 2) := by decide +kernel
theorem dci1_17 : decode jdk_52_method_21_code 17 = .ok (.sipush 255, 3) := by decide +kernel
theorem dci1_20 : decode jdk_52_method_21_code 20 = .ok (.if_icmp .le 6, 3) := by decide +kernel
theorem dci1_26 : decode jdk_52_method_21_code 26 = .ok (.aload_n 2, 1) := by decide +kernel
theorem dci1_27 : decode jdk_52_method_21_code 27 = .ok (.iload_n 3, 1) := by decide +kernel
theorem dci1_28 : decode jdk_52_method_21_code 28 = .ok (.iload 6, 2) := by decide +kernel
theorem dci1_30 : decode jdk_52_method_21_code 30 = .ok (.i2b, 1) := by decide +kernel
theorem dci1_31 : decode jdk_52_method_21_code 31 = .ok (.bastore, 1) := by decide +kernel
theorem dci1_32 : decode jdk_52_method_21_code 32 = .ok (.iinc 1 1, 3) := by decide +kernel
theorem dci1_35 : decode jdk_52_method_21_code 35 = .ok (.iinc 3 1, 3) := by decide +kernel
theorem dci1_38 : decode jdk_52_method_21_code 38 = .ok (.iinc 5 1, 3) := by decide +kernel
theorem dci1_41 : decode jdk_52_method_21_code 41 = .ok (.goto (-38), 3) := by decide +kernel
theorem dci1_44 : decode jdk_52_method_21_code 44 = .ok (.iload 4, 2) := by decide +kernel
theorem dci1_46 : decode jdk_52_method_21_code 46 = .ok (.ireturn, 1) := by decide +kernel
theorem pn_ci1 : plainName "java/lang/StringUTF16" = true := by first | (simp [plainName, overriddenIn]; done) | decide +kernel
theorem ef_ci1 (m : MethodId) (x0 : Addr) (x1 : Int32) (x2 : Addr) (x3 : Int32) (x4 : Int32) : entryFrame m #[(.ref x0), (.int x1), (.ref x2), (.int x3), (.int x4)] 7 = mkF m 0 #[.val (.ref x0), .val (.int x1), .val (.ref x2), .val (.int x3), .val (.int x4), .unset, .unset] [] := by first | (simp [entryFrame, mkF, argsToLocals, Value.category]; done) | rfl
def Qci1 (Z : State) (a1 : Addr) (a2 : Addr) (k1 : ClassId) (k2 : ClassId) (c0 : Int32) (h0 : Heap) (n0 : Nat) (v : Option Value) (h : Heap) (L : List Loc) : Prop := v = some (.int (1 : Int32)) ∧ Fr n0 L ∧ Keep h0 h [a2] ∧ Arv Z h a2 k2 .byte (1 : Int32) [.int (c0.toInt8.toInt32)] (.int 0)
set_option maxRecDepth 65536 in
set_option maxHeartbeats 40000000 in
theorem rmci1 (l : Launch) (Z : State) (a0 : Array Value) (hw : ∀ d ∈ tables_1, d.before a0 Z = true) (ws : List Jvm.Cond) (a1 : Addr) (a2 : Addr) (k1 : ClassId) (k2 : ClassId) (c0 : Int32) (h0 : Heap) (n0 : Nat) (Z0 : n0 ≤ h0.size) (F0 : Arv Z h0 a1 k1 .char (1 : Int32) [.int c0] (.int 0)) (F1 : Arv Z h0 a2 k2 .byte (1 : Int32) [.int 0] (.int 0)) (ge_a2 : n0 ≤ a2) (hne : a1 ≠ a2) (hc_c0 : ¬ ((255 : Int32) < c0)) :
    MetFree l (⟨"java/lang/StringUTF16", "compress", "([CI[BII)I"⟩ : MethodName) (head1 (Jvm.Cond.code (⟨"java/lang/StringUTF16", "compress", "([CI[BII)I"⟩ : MethodName) jdk_52_method_21_code 7 (some .int) :: ws) ({ frames := 0, cells := 0, slots := 0, locals := 0 } : Room)) (fun a U => a = #[(.ref a1), (.int (0 : Int32)), (.ref a2), (.int (0 : Int32)), (.int (1 : Int32))] ∧ Z.Warmed39 U.vm ∧ U.heap = h0) (fun _ _ _ _ _ => True) (fun _ U o U' => ∃ v L, o = .returned v ∧ Qci1 Z a1 a2 k1 k2 c0 h0 n0 v U'.heap L ∧ FrameEnd U o U' L ({ frames := 0, cells := 0, slots := 0, locals := 0 } : Room).cells ({ frames := 0, cells := 0, slots := 0, locals := 0 } : Room).slots) := by
  refine MetFree.of_bodySF (plainFor_of_name pn_ci1) hisR ?_
  intro p e s m args below meth c s₁ Bd hml0 hP hK
  obtain ⟨rfl, hZ, hh⟩ := hP
  have hx := Bd.exec
  have hby := Bd.bytes
  have hml : c.maxLocals = 7 := hml0
  have hown : s.vm.findClass "java/lang/StringUTF16" = some m.cls := findClass_of_methodNamed Bd.named
  have hnm := (name_of_methodNamed Bd.named Bd.method).1
  have X0 : Stand p l e ({ frames := 0, cells := 0, slots := 0, locals := 0 } : Room) s m #[(.ref a1), (.int (0 : Int32)), (.ref a2), (.int (0 : Int32)), (.int (1 : Int32))] below meth c s₁ [] 0 0 := Stand.of_body Bd
  have e0 : s₁.heap = h0 := by rw [← hh, Bd.state]; rfl
  have N0 := Fr.nil n0
  show own_R p.tables e below (own_P s (Qci1 Z a1 a2 k1 k2 c0 h0 n0) ({ frames := 0, cells := 0, slots := 0, locals := 0 } : Room).cells ({ frames := 0, cells := 0, slots := 0, locals := 0 } : Room).slots) (s₁.setTop (entryFrame m #[(.ref a1), (.int (0 : Int32)), (.ref a2), (.int (0 : Int32)), (.int (1 : Int32))] 7))
  refine own_f s₁ (mkF m 0 #[.val (.ref a1), .val (.int (0 : Int32)), .val (.ref a2), .val (.int (0 : Int32)), .val (.int (1 : Int32)), .unset, .unset] []) (fun t k => castTop (ef_ci1 m a1 (0 : Int32) a2 (0 : Int32) (1 : Int32)) k) ?_
  refine own_f s₁ (mkF m 1 #[.val (.ref a1), .val (.int (0 : Int32)), .val (.ref a2), .val (.int (0 : Int32)), .val (.int (1 : Int32)), .unset, .unset] [(.int (0 : Int32))]) (fun t k => XT.iconstV X0.here hx rfl (0 : Int32) (hb hby dci1_0) (by decide) k) ?_
  refine own_f s₁ (mkF m 3 #[.val (.ref a1), .val (.int (0 : Int32)), .val (.ref a2), .val (.int (0 : Int32)), .val (.int (1 : Int32)), .val (.int (0 : Int32)), .unset] []) (fun t k => XS.istore X0.here hx rfl (hb hby dci1_1) rfl (l' := #[.val (.ref a1), .val (.int (0 : Int32)), .val (.ref a2), .val (.int (0 : Int32)), .val (.int (1 : Int32)), .val (.int (0 : Int32)), .unset]) rfl k) ?_
  refine own_f s₁ (mkF m 5 #[.val (.ref a1), .val (.int (0 : Int32)), .val (.ref a2), .val (.int (0 : Int32)), .val (.int (1 : Int32)), .val (.int (0 : Int32)), .unset] [(.int (0 : Int32))]) (fun t k => XS.iload X0.here hx rfl (hb hby dci1_3) rfl k) ?_
  refine own_f s₁ (mkF m 7 #[.val (.ref a1), .val (.int (0 : Int32)), .val (.ref a2), .val (.int (0 : Int32)), .val (.int (1 : Int32)), .val (.int (0 : Int32)), .unset] [(.int (1 : Int32)), (.int (0 : Int32))]) (fun t k => XS.iload X0.here hx rfl (hb hby dci1_5) rfl k) ?_
  refine own_f s₁ (mkF m 10 #[.val (.ref a1), .val (.int (0 : Int32)), .val (.ref a2), .val (.int (0 : Int32)), .val (.int (1 : Int32)), .val (.int (0 : Int32)), .unset] []) (fun t k => XS.icmpNo X0.here hx rfl (hb hby dci1_7) rfl (XT.ii_ge_f (by decide)) k) ?_
  refine own_f s₁ (mkF m 11 #[.val (.ref a1), .val (.int (0 : Int32)), .val (.ref a2), .val (.int (0 : Int32)), .val (.int (1 : Int32)), .val (.int (0 : Int32)), .unset] [(.ref a1)]) (fun t k => XS.aloadN X0.here hx rfl (hb hby dci1_10) rfl rfl k) ?_
  refine own_f s₁ (mkF m 12 #[.val (.ref a1), .val (.int (0 : Int32)), .val (.ref a2), .val (.int (0 : Int32)), .val (.int (1 : Int32)), .val (.int (0 : Int32)), .unset] [(.int (0 : Int32)), (.ref a1)]) (fun t k => XS.iloadN X0.here hx rfl (hb hby dci1_11) rfl k) ?_
  obtain ⟨cl1, Ar1, q11, Sz1, q31, Hs1, Gs1⟩ := id F0
  have hi1 := inb_of (j := (0 : Int32)) Sz1 ⟨by decide, by decide⟩
  refine own_f s₁ (mkF m 13 #[.val (.ref a1), .val (.int (0 : Int32)), .val (.ref a2), .val (.int (0 : Int32)), .val (.int (1 : Int32)), .val (.int (0 : Int32)), .unset] [(.int c0)]) (fun t k => X0.caload hx (j := (0 : Int32)) (v := (.int c0)) (by rw [e0]; exact Ar1.1) (State.isArrayOf_alike hZ.alike Ar1.2.1) Ar1.2.2 hi1 (Has.at Hs1 hi1 rfl) (g := (mkF m 12 #[.val (.ref a1), .val (.int (0 : Int32)), .val (.ref a2), .val (.int (0 : Int32)), .val (.int (1 : Int32)), .val (.int (0 : Int32)), .unset] [(.int (0 : Int32)), (.ref a1)])) rfl rfl (hb hby dci1_12) t k) ?_
  refine own_f s₁ (mkF m 15 #[.val (.ref a1), .val (.int (0 : Int32)), .val (.ref a2), .val (.int (0 : Int32)), .val (.int (1 : Int32)), .val (.int (0 : Int32)), .val (.int c0)] []) (fun t k => XS.istore X0.here hx rfl (hb hby dci1_13) rfl (l' := #[.val (.ref a1), .val (.int (0 : Int32)), .val (.ref a2), .val (.int (0 : Int32)), .val (.int (1 : Int32)), .val (.int (0 : Int32)), .val (.int c0)]) rfl k) ?_
  refine own_f s₁ (mkF m 17 #[.val (.ref a1), .val (.int (0 : Int32)), .val (.ref a2), .val (.int (0 : Int32)), .val (.int (1 : Int32)), .val (.int (0 : Int32)), .val (.int c0)] [(.int c0)]) (fun t k => XS.iload X0.here hx rfl (hb hby dci1_15) rfl k) ?_
  refine own_f s₁ (mkF m 20 #[.val (.ref a1), .val (.int (0 : Int32)), .val (.ref a2), .val (.int (0 : Int32)), .val (.int (1 : Int32)), .val (.int (0 : Int32)), .val (.int c0)] [(.int (255 : Int32)), (.int c0)]) (fun t k => XT.sipushV X0.here hx rfl (255 : Int32) (hb hby dci1_17) (by decide) k) ?_
  refine own_f s₁ (mkF m 26 #[.val (.ref a1), .val (.int (0 : Int32)), .val (.ref a2), .val (.int (0 : Int32)), .val (.int (1 : Int32)), .val (.int (0 : Int32)), .val (.int c0)] []) (fun t k => XS.icmpYes X0.here hx rfl (pc0 := 20) (pc' := 26) rfl (hb hby dci1_20) rfl (XT.ii_le_t hc_c0) (by decide) (by decide) k) ?_
  refine own_f s₁ (mkF m 27 #[.val (.ref a1), .val (.int (0 : Int32)), .val (.ref a2), .val (.int (0 : Int32)), .val (.int (1 : Int32)), .val (.int (0 : Int32)), .val (.int c0)] [(.ref a2)]) (fun t k => XS.aloadN X0.here hx rfl (hb hby dci1_26) rfl rfl k) ?_
  refine own_f s₁ (mkF m 28 #[.val (.ref a1), .val (.int (0 : Int32)), .val (.ref a2), .val (.int (0 : Int32)), .val (.int (1 : Int32)), .val (.int (0 : Int32)), .val (.int c0)] [(.int (0 : Int32)), (.ref a2)]) (fun t k => XS.iloadN X0.here hx rfl (hb hby dci1_27) rfl k) ?_
  refine own_f s₁ (mkF m 30 #[.val (.ref a1), .val (.int (0 : Int32)), .val (.ref a2), .val (.int (0 : Int32)), .val (.int (1 : Int32)), .val (.int (0 : Int32)), .val (.int c0)] [(.int c0), (.int (0 : Int32)), (.ref a2)]) (fun t k => XS.iload X0.here hx rfl (hb hby dci1_28) rfl k) ?_
  refine own_f s₁ (mkF m 31 #[.val (.ref a1), .val (.int (0 : Int32)), .val (.ref a2), .val (.int (0 : Int32)), .val (.int (1 : Int32)), .val (.int (0 : Int32)), .val (.int c0)] [(.int (c0.toInt8.toInt32)), (.int (0 : Int32)), (.ref a2)]) (fun t k => XS.i2b X0.here hx rfl (hb hby dci1_30) rfl k) ?_
  obtain ⟨cl2, Ar2, q12, Sz2, q32, Hs2, Gs2⟩ := id F1
  obtain ⟨T2, h2, X2, e2, W2, st2⟩ := stB X0 hx hZ e0 Ar2 (j := (0 : Int32)) (inb_of Sz2 ⟨by decide, by decide⟩) (g := (mkF m 31 #[.val (.ref a1), .val (.int (0 : Int32)), .val (.ref a2), .val (.int (0 : Int32)), .val (.int (1 : Int32)), .val (.int (0 : Int32)), .val (.int c0)] [(.int (c0.toInt8.toInt32)), (.int (0 : Int32)), (.ref a2)])) rfl rfl (hb hby dci1_31)
  have N2 := Fr.snoc X2 N0 ge_a2
  have Zs2 : n0 ≤ h2.size := by rw [W2.size]; exact Z0
  have K2 : Keep h0 h2 [a2] := (Keep.refl h0 [a2]).wr W2 (Or.inl (by simp))
  have F_3 := F0.other W2 hne
  have F_4 : Arv Z h2 a2 k2 .byte (1 : Int32) [.int (c0.toInt8.toInt32)] (.int 0) := Arv.set Ar2 q12 Sz2 q32 Hs2 Gs2 (by rw [← ((own_narB _) : nar .byte (c0.toInt8.toInt32) = (c0.toInt8.toInt32))]; exact own_fitB _) (by rw [((own_narB _) : nar .byte (c0.toInt8.toInt32) = (c0.toInt8.toInt32))] at W2; exact W2) 0 (by decide) (by simp)
  refine own_f T2 (mkF m 32 #[.val (.ref a1), .val (.int (0 : Int32)), .val (.ref a2), .val (.int (0 : Int32)), .val (.int (1 : Int32)), .val (.int (0 : Int32)), .val (.int c0)] []) st2 ?_
  refine own_f T2 (mkF m 35 #[.val (.ref a1), .val (.int ((0 : Int32) + (1 : Int32))), .val (.ref a2), .val (.int (0 : Int32)), .val (.int (1 : Int32)), .val (.int (0 : Int32)), .val (.int c0)] []) (fun t k => XT.iincV X2.here hx rfl (l' := #[.val (.ref a1), .val (.int ((0 : Int32) + (1 : Int32))), .val (.ref a2), .val (.int (0 : Int32)), .val (.int (1 : Int32)), .val (.int (0 : Int32)), .val (.int c0)]) (1 : Int32) (hb hby dci1_32) (by decide) rfl rfl k) ?_
  rw [show ((0 : Int32) + (1 : Int32)) = (1 : Int32) from by decide]
  refine own_f T2 (mkF m 38 #[.val (.ref a1), .val (.int (1 : Int32)), .val (.ref a2), .val (.int ((0 : Int32) + (1 : Int32))), .val (.int (1 : Int32)), .val (.int (0 : Int32)), .val (.int c0)] []) (fun t k => XT.iincV X2.here hx rfl (l' := #[.val (.ref a1), .val (.int (1 : Int32)), .val (.ref a2), .val (.int ((0 : Int32) + (1 : Int32))), .val (.int (1 : Int32)), .val (.int (0 : Int32)), .val (.int c0)]) (1 : Int32) (hb hby dci1_35) (by decide) rfl rfl k) ?_
  rw [show ((0 : Int32) + (1 : Int32)) = (1 : Int32) from by decide]
  refine own_f T2 (mkF m 41 #[.val (.ref a1), .val (.int (1 : Int32)), .val (.ref a2), .val (.int (1 : Int32)), .val (.int (1 : Int32)), .val (.int ((0 : Int32) + (1 : Int32))), .val (.int c0)] []) (fun t k => XT.iincV X2.here hx rfl (l' := #[.val (.ref a1), .val (.int (1 : Int32)), .val (.ref a2), .val (.int (1 : Int32)), .val (.int (1 : Int32)), .val (.int ((0 : Int32) + (1 : Int32))), .val (.int c0)]) (1 : Int32) (hb hby dci1_38) (by decide) rfl rfl k) ?_
  rw [show ((0 : Int32) + (1 : Int32)) = (1 : Int32) from by decide]
  refine own_f T2 (mkF m 3 #[.val (.ref a1), .val (.int (1 : Int32)), .val (.ref a2), .val (.int (1 : Int32)), .val (.int (1 : Int32)), .val (.int (1 : Int32)), .val (.int c0)] []) (fun t k => XS.goto X2.here hx rfl (pc0 := 41) (pc' := 3) rfl (hb hby dci1_41) (by decide) (by decide) k) ?_
  refine own_f T2 (mkF m 5 #[.val (.ref a1), .val (.int (1 : Int32)), .val (.ref a2), .val (.int (1 : Int32)), .val (.int (1 : Int32)), .val (.int (1 : Int32)), .val (.int c0)] [(.int (1 : Int32))]) (fun t k => XS.iload X2.here hx rfl (hb hby dci1_3) rfl k) ?_
  refine own_f T2 (mkF m 7 #[.val (.ref a1), .val (.int (1 : Int32)), .val (.ref a2), .val (.int (1 : Int32)), .val (.int (1 : Int32)), .val (.int (1 : Int32)), .val (.int c0)] [(.int (1 : Int32)), (.int (1 : Int32))]) (fun t k => XS.iload X2.here hx rfl (hb hby dci1_5) rfl k) ?_
  refine own_f T2 (mkF m 44 #[.val (.ref a1), .val (.int (1 : Int32)), .val (.ref a2), .val (.int (1 : Int32)), .val (.int (1 : Int32)), .val (.int (1 : Int32)), .val (.int c0)] []) (fun t k => XS.icmpYes X2.here hx rfl (pc0 := 7) (pc' := 44) rfl (hb hby dci1_7) rfl (XT.ii_ge_t (by decide)) (by decide) (by decide) k) ?_
  refine own_f T2 (mkF m 46 #[.val (.ref a1), .val (.int (1 : Int32)), .val (.ref a2), .val (.int (1 : Int32)), .val (.int (1 : Int32)), .val (.int (1 : Int32)), .val (.int c0)] [(.int (1 : Int32))]) (fun t k => XS.iload X2.here hx rfl (hb hby dci1_44) rfl k) ?_
  obtain ⟨fs, hr, hrun, hended, hW, hsame⟩ := X2.leave (v := some (.int (1 : Int32))) (fun h => by rw [Bd.returns] at h; cases h)
  refine ⟨_, _, retI X2 hx Bd.returns (hb hby dci1_46) hr, hrun, hended, _, _, rfl, ?_, ⟨_, rfl⟩, hW, hsame.mono (by decide) (by decide)⟩
  show Qci1 Z a1 a2 k1 k2 c0 h0 n0 _ T2.heap _
  rw [e2]
  exact ⟨rfl, N2, K2, F_4⟩
theorem dcb1_0 : decode jdk_52_method_16_code 0 = .ok (.iload_n 2, 1) := by decide +kernel
theorem dcb1_1 : decode jdk_52_method_16_code 1 = .ok (.newarray .byte, 2) := by decide +kernel
theorem dcb1_3 : decode jdk_52_method_16_code 3 = .ok (.astore_n 3, 1) := by decide +kernel
theorem dcb1_4 : decode jdk_52_method_16_code 4 = .ok (.aload_n 0, 1) := by decide +kernel
theorem dcb1_5 : decode jdk_52_method_16_code 5 = .ok (.iload_n 1, 1) := by decide +kernel
theorem dcb1_6 : decode jdk_52_method_16_code 6 = .ok (.aload_n 3, 1) := by decide +kernel
theorem dcb1_7 : decode jdk_52_method_16_code 7 = .ok (.iconst 0, 1) := by decide +kernel
theorem dcb1_8 : decode jdk_52_method_16_code 8 = .ok (.iload_n 2, 1) := by decide +kernel
theorem dcb1_9 : decode jdk_52_method_16_code 9 = .ok (.invokestatic 115, 3) := by decide +kernel
theorem dcb1_12 : decode jdk_52_method_16_code 12 = .ok (.istore 4, 2) := by decide +kernel
theorem dcb1_14 : decode jdk_52_method_16_code 14 = .ok (.iload 4, 2) := by decide +kernel
theorem dcb1_16 : decode jdk_52_method_16_code 16 = .ok (.iload_n 2, 1) := by decide +kernel
theorem dcb1_17 : decode jdk_52_method_16_code 17 = .ok (.if_icmp .eq 40, 3) := by decide +kernel
theorem dcb1_57 : decode jdk_52_method_16_code 57 = .ok (.aload_n 3, 1) := by decide +kernel
theorem dcb1_58 : decode jdk_52_method_16_code 58 = .ok (.areturn, 1) := by decide +kernel
theorem pn_cb1 : plainName "java/lang/StringUTF16" = true := by first | (simp [plainName, overriddenIn]; done) | decide +kernel
theorem ef_cb1 (m : MethodId) (x0 : Addr) (x1 : Int32) (x2 : Int32) : entryFrame m #[(.ref x0), (.int x1), (.int x2)] 6 = mkF m 0 #[.val (.ref x0), .val (.int x1), .val (.int x2), .unset, .unset, .unset] [] := by first | (simp [entryFrame, mkF, argsToLocals, Value.category]; done) | rfl
def Qcb1 (Z : State) (a1 : Addr) (k1 : ClassId) (c0 : Int32) (h0 : Heap) (n0 : Nat) (v : Option Value) (h : Heap) (L : List Loc) : Prop := ∃ (b : Addr) (kb : ClassId), v = some (.ref b) ∧ Fr n0 L ∧ Keep h0 h [] ∧ Arv Z h b kb .byte (1 : Int32) [.int (c0.toInt8.toInt32)] (.int 0) ∧ h0.size ≤ b
set_option maxRecDepth 65536 in
set_option maxHeartbeats 40000000 in
theorem rmcb1 (l : Launch) (Z : State) (a0 : Array Value) (hw : ∀ d ∈ tables_1, d.before a0 Z = true) (ws : List Jvm.Cond) (a1 : Addr) (k1 : ClassId) (c0 : Int32) (h0 : Heap) (n0 : Nat) (Z0 : n0 ≤ h0.size) (F0 : Arv Z h0 a1 k1 .char (1 : Int32) [.int c0] (.int 0)) (hc_c0 : ¬ ((255 : Int32) < c0)) :
    MetFree l (⟨"java/lang/StringUTF16", "compress", "([CII)[B"⟩ : MethodName) (head1 (Jvm.Cond.code (⟨"java/lang/StringUTF16", "compress", "([CII)[B"⟩ : MethodName) jdk_52_method_16_code 6 (some (.array .byte)) :: ws) ({ frames := 1, cells := 1, slots := 1, locals := 24 } : Room)) (fun a U => a = #[(.ref a1), (.int (0 : Int32)), (.int (1 : Int32))] ∧ Z.Warmed39 U.vm ∧ U.heap = h0) (fun _ _ _ _ _ => True) (fun _ U o U' => ∃ v L, o = .returned v ∧ Qcb1 Z a1 k1 c0 h0 n0 v U'.heap L ∧ FrameEnd U o U' L ({ frames := 1, cells := 1, slots := 1, locals := 24 } : Room).cells ({ frames := 1, cells := 1, slots := 1, locals := 24 } : Room).slots) := by
  refine MetFree.of_bodySF (plainFor_of_name pn_cb1) hisR ?_
  intro p e s m args below meth c s₁ Bd hml0 hP hK
  obtain ⟨rfl, hZ, hh⟩ := hP
  have hx := Bd.exec
  have hby := Bd.bytes
  have hml : c.maxLocals = 6 := hml0
  have hown : s.vm.findClass "java/lang/StringUTF16" = some m.cls := findClass_of_methodNamed Bd.named
  have hnm := (name_of_methodNamed Bd.named Bd.method).1
  have X0 : Stand p l e ({ frames := 1, cells := 1, slots := 1, locals := 24 } : Room) s m #[(.ref a1), (.int (0 : Int32)), (.int (1 : Int32))] below meth c s₁ [] 0 0 := Stand.of_body Bd
  have e0 : s₁.heap = h0 := by rw [← hh, Bd.state]; rfl
  have N0 := Fr.nil n0
  show own_R p.tables e below (own_P s (Qcb1 Z a1 k1 c0 h0 n0) ({ frames := 1, cells := 1, slots := 1, locals := 24 } : Room).cells ({ frames := 1, cells := 1, slots := 1, locals := 24 } : Room).slots) (s₁.setTop (entryFrame m #[(.ref a1), (.int (0 : Int32)), (.int (1 : Int32))] 6))
  refine own_f s₁ (mkF m 0 #[.val (.ref a1), .val (.int (0 : Int32)), .val (.int (1 : Int32)), .unset, .unset, .unset] []) (fun t k => castTop (ef_cb1 m a1 (0 : Int32) (1 : Int32)) k) ?_
  refine own_f s₁ (mkF m 1 #[.val (.ref a1), .val (.int (0 : Int32)), .val (.int (1 : Int32)), .unset, .unset, .unset] [(.int (1 : Int32))]) (fun t k => XS.iloadN X0.here hx rfl (hb hby dcb1_0) rfl k) ?_
  obtain ⟨T1, h1, kA1, X1, e1, E1, A1, st1⟩ := newP X0 hx hZ (own_w hw 23 rfl) e0 (g := (mkF m 1 #[.val (.ref a1), .val (.int (0 : Int32)), .val (.int (1 : Int32)), .unset, .unset, .unset] [(.int (1 : Int32))])) rfl (hb hby dcb1_1) rfl (by decide) (cap := 1) (by decide) (by decide) (by decide) (by decide)
  obtain ⟨b1, g1⟩ : ∃ z, z = h0.size := ⟨_, rfl⟩
  rw [← g1] at A1 st1
  have ne1_a1 : a1 ≠ b1 := by rw [g1]; exact Nat.ne_of_lt F0.lt
  have ge1 : n0 ≤ b1 := by rw [g1]; exact Z0
  have gf1 : h0.size ≤ b1 := by rw [g1]; exact (Keep.refl h0 []).1
  have Zs1 : n0 ≤ h1.size := Nat.le_trans Z0 E1.1
  have F_2 := F0.ext E1
  have K1 : Keep h0 h1 [] := (Keep.refl h0 []).ext E1
  have F_3 : Arv Z h1 b1 kA1 .byte (1 : Int32) [.int 0] (.int 0) := own_arvnew 1 A1 (by decide)
  refine own_f T1 (mkF m 3 #[.val (.ref a1), .val (.int (0 : Int32)), .val (.int (1 : Int32)), .unset, .unset, .unset] [(.ref b1)]) st1 ?_
  refine own_f T1 (mkF m 4 #[.val (.ref a1), .val (.int (0 : Int32)), .val (.int (1 : Int32)), .val (.ref b1), .unset, .unset] []) (fun t k => XS.astoreN X1.here hx rfl (hb hby dcb1_3) rfl rfl (l' := #[.val (.ref a1), .val (.int (0 : Int32)), .val (.int (1 : Int32)), .val (.ref b1), .unset, .unset]) rfl k) ?_
  refine own_f T1 (mkF m 5 #[.val (.ref a1), .val (.int (0 : Int32)), .val (.int (1 : Int32)), .val (.ref b1), .unset, .unset] [(.ref a1)]) (fun t k => XS.aloadN X1.here hx rfl (hb hby dcb1_4) rfl rfl k) ?_
  refine own_f T1 (mkF m 6 #[.val (.ref a1), .val (.int (0 : Int32)), .val (.int (1 : Int32)), .val (.ref b1), .unset, .unset] [(.int (0 : Int32)), (.ref a1)]) (fun t k => XS.iloadN X1.here hx rfl (hb hby dcb1_5) rfl k) ?_
  refine own_f T1 (mkF m 7 #[.val (.ref a1), .val (.int (0 : Int32)), .val (.int (1 : Int32)), .val (.ref b1), .unset, .unset] [(.ref b1), (.int (0 : Int32)), (.ref a1)]) (fun t k => XS.aloadN X1.here hx rfl (hb hby dcb1_6) rfl rfl k) ?_
  refine own_f T1 (mkF m 8 #[.val (.ref a1), .val (.int (0 : Int32)), .val (.int (1 : Int32)), .val (.ref b1), .unset, .unset] [(.int (0 : Int32)), (.ref b1), (.int (0 : Int32)), (.ref a1)]) (fun t k => XT.iconstV X1.here hx rfl (0 : Int32) (hb hby dcb1_7) (by decide) k) ?_
  refine own_f T1 (mkF m 9 #[.val (.ref a1), .val (.int (0 : Int32)), .val (.int (1 : Int32)), .val (.ref b1), .unset, .unset] [(.int (1 : Int32)), (.int (0 : Int32)), (.ref b1), (.int (0 : Int32)), (.ref a1)]) (fun t k => XS.iloadN X1.here hx rfl (hb hby dcb1_8) rfl k) ?_
  obtain ⟨_, _, ⟨T4, Lq4, kq_4, nq_4⟩, -, X4, ⟨Lc4, hQ4, lq4, yq4, zq4⟩, st4⟩ := Jvm.LawKit.callS X1 hx (y := (⟨"java/lang/StringUTF16", "compress", "([CI[BII)I"⟩ : MethodName)) hown (mvT hZ (own_w hw 45 rfl)) (mvT hZ (own_w hw 46 rfl)) (mvT hZ (own_w hw 43 rfl)) (mvT hZ (own_w hw 47 rfl)) (by decide) (backOf (W := 0) (rmci1 l Z a0 hw [] a1 b1 _ _ _ h1 n0 Zs1 F_2 F_3 ge1 ne1_a1 hc_c0) hZ (own_w hw 47 rfl) (own_w hw 43 rfl) (by decide) (by decide)) (g := (mkF m 9 #[.val (.ref a1), .val (.int (0 : Int32)), .val (.int (1 : Int32)), .val (.ref b1), .unset, .unset] [(.int (1 : Int32)), (.int (0 : Int32)), (.ref b1), (.int (0 : Int32)), (.ref a1)])) rfl (by rw [hml]; rfl) (argsL := [(.ref a1), (.int (0 : Int32)), (.ref b1), (.int (0 : Int32)), (.int (1 : Int32))]) (rest := []) (lenOf pd__CI_BII_I rfl) rfl (by show 2 * 0 + _ ≤ _; exact Nat.le_of_eq rfl) (hb hby dcb1_9) (fun _ _ => ⟨rfl, e1, (by decide : 0 + 1 + 0 ≤ _), (by decide : 0 + 1 + 0 ≤ _)⟩)
  dsimp only [Pt.U, Pt.locs, Pt.cells, Pt.slots] at X4 lq4 yq4 zq4 st4 hQ4
  subst lq4 yq4 zq4
  obtain ⟨h4, e4⟩ : ∃ z, T4.heap = z := ⟨_, rfl⟩
  rw [e4] at hQ4
  unfold Qci1 at hQ4
  obtain ⟨rfl, Nq4, qh4, G4_0⟩ := hQ4
  have N4 := Fr.app N0 Nq4
  have Zs4 : n0 ≤ h4.size := Nat.le_trans Zs1 qh4.1
  have F_5 := F_2.keep qh4 (ninS ne1_a1 nin0)
  have K4 : Keep h0 h4 [] := K1.trans qh4 (allS (Or.inr gf1) all0)
  refine own_f T4 (mkF m 12 #[.val (.ref a1), .val (.int (0 : Int32)), .val (.int (1 : Int32)), .val (.ref b1), .unset, .unset] [(.int (1 : Int32))]) st4 ?_
  refine own_f T4 (mkF m 14 #[.val (.ref a1), .val (.int (0 : Int32)), .val (.int (1 : Int32)), .val (.ref b1), .val (.int (1 : Int32)), .unset] []) (fun t k => XS.istore X4.here hx rfl (hb hby dcb1_12) rfl (l' := #[.val (.ref a1), .val (.int (0 : Int32)), .val (.int (1 : Int32)), .val (.ref b1), .val (.int (1 : Int32)), .unset]) rfl k) ?_
  refine own_f T4 (mkF m 16 #[.val (.ref a1), .val (.int (0 : Int32)), .val (.int (1 : Int32)), .val (.ref b1), .val (.int (1 : Int32)), .unset] [(.int (1 : Int32))]) (fun t k => XS.iload X4.here hx rfl (hb hby dcb1_14) rfl k) ?_
  refine own_f T4 (mkF m 17 #[.val (.ref a1), .val (.int (0 : Int32)), .val (.int (1 : Int32)), .val (.ref b1), .val (.int (1 : Int32)), .unset] [(.int (1 : Int32)), (.int (1 : Int32))]) (fun t k => XS.iloadN X4.here hx rfl (hb hby dcb1_16) rfl k) ?_
  refine own_f T4 (mkF m 57 #[.val (.ref a1), .val (.int (0 : Int32)), .val (.int (1 : Int32)), .val (.ref b1), .val (.int (1 : Int32)), .unset] []) (fun t k => XS.icmpYes X4.here hx rfl (pc0 := 17) (pc' := 57) rfl (hb hby dcb1_17) rfl (XT.ii_eq_t (by decide)) (by decide) (by decide) k) ?_
  refine own_f T4 (mkF m 58 #[.val (.ref a1), .val (.int (0 : Int32)), .val (.int (1 : Int32)), .val (.ref b1), .val (.int (1 : Int32)), .unset] [(.ref b1)]) (fun t k => XS.aloadN X4.here hx rfl (hb hby dcb1_57) rfl rfl k) ?_
  obtain ⟨fs, hr, hrun, hended, hW, hsame⟩ := X4.leave (v := some (.ref b1)) (fun h => by rw [Bd.returns] at h; cases h)
  refine ⟨_, _, retOut X4 hx Bd.returns (by rfl) (Or.inr (Or.inr (Or.inr (Or.inr ⟨rfl, rfl, rfl⟩)))) (hb hby dcb1_58) hr, hrun, hended, _, _, rfl, ?_, ⟨_, rfl⟩, hW, hsame.mono (by decide) (by decide)⟩
  show Qcb1 Z a1 k1 c0 h0 n0 _ T4.heap _
  rw [e4]
  exact ⟨b1, kA1, rfl, N4, K4, G4_0, gf1⟩
theorem dco1_1_0 : decode jdk_52_method_15_code 0 = .ok (.iload_n 1, 1) := by decide +kernel
theorem dco1_1_1 : decode jdk_52_method_15_code 1 = .ok (.aload_n 0, 1) := by decide +kernel
theorem dco1_1_2 : decode jdk_52_method_15_code 2 = .ok (.arraylength, 1) := by decide +kernel
theorem dco1_1_3 : decode jdk_52_method_15_code 3 = .ok (.isub, 1) := by decide +kernel
theorem dco1_1_4 : decode jdk_52_method_15_code 4 = .ok (.bipush 31, 2) := by decide +kernel
theorem dco1_1_6 : decode jdk_52_method_15_code 6 = .ok (.iushr, 1) := by decide +kernel
theorem dco1_1_7 : decode jdk_52_method_15_code 7 = .ok (.i2b, 1) := by decide +kernel
theorem dco1_1_8 : decode jdk_52_method_15_code 8 = .ok (.ireturn, 1) := by decide +kernel
theorem pn_co1_1 : plainName "java/lang/StringUTF16" = true := by first | (simp [plainName, overriddenIn]; done) | decide +kernel
theorem ef_co1_1 (m : MethodId) (x0 : Addr) (x1 : Int32) : entryFrame m #[(.ref x0), (.int x1)] 2 = mkF m 0 #[.val (.ref x0), .val (.int x1)] [] := by first | (simp [entryFrame, mkF, argsToLocals, Value.category]; done) | rfl
def Qco1_1 (Z : State) (a1 : Addr) (k1 : ClassId) (vv : List Value) (h0 : Heap) (n0 : Nat) (v : Option Value) (h : Heap) (L : List Loc) : Prop := v = some (.int (0 : Int32)) ∧ Fr n0 L ∧ h = h0
set_option maxRecDepth 65536 in
set_option maxHeartbeats 40000000 in
theorem rmco1_1 (l : Launch) (Z : State) (a0 : Array Value) (hw : ∀ d ∈ tables_1, d.before a0 Z = true) (ws : List Jvm.Cond) (a1 : Addr) (k1 : ClassId) (vv : List Value) (h0 : Heap) (n0 : Nat) (Z0 : n0 ≤ h0.size) (F0 : Arv Z h0 a1 k1 .byte (1 : Int32) vv (.int 0)) :
    MetFree l (⟨"java/lang/StringUTF16", "coderFromArrayLen", "([BI)B"⟩ : MethodName) (head1 (Jvm.Cond.code (⟨"java/lang/StringUTF16", "coderFromArrayLen", "([BI)B"⟩ : MethodName) jdk_52_method_15_code 2 (some .byte) :: ws) ({ frames := 0, cells := 0, slots := 0, locals := 0 } : Room)) (fun a U => a = #[(.ref a1), (.int (1 : Int32))] ∧ Z.Warmed39 U.vm ∧ U.heap = h0) (fun _ _ _ _ _ => True) (fun _ U o U' => ∃ v L, o = .returned v ∧ Qco1_1 Z a1 k1 vv h0 n0 v U'.heap L ∧ FrameEnd U o U' L ({ frames := 0, cells := 0, slots := 0, locals := 0 } : Room).cells ({ frames := 0, cells := 0, slots := 0, locals := 0 } : Room).slots) := by
  refine MetFree.of_bodySF (plainFor_of_name pn_co1_1) hisR ?_
  intro p e s m args below meth c s₁ Bd hml0 hP hK
  obtain ⟨rfl, hZ, hh⟩ := hP
  have hx := Bd.exec
  have hby := Bd.bytes
  have hml : c.maxLocals = 2 := hml0
  have hown : s.vm.findClass "java/lang/StringUTF16" = some m.cls := findClass_of_methodNamed Bd.named
  have hnm := (name_of_methodNamed Bd.named Bd.method).1
  have X0 : Stand p l e ({ frames := 0, cells := 0, slots := 0, locals := 0 } : Room) s m #[(.ref a1), (.int (1 : Int32))] below meth c s₁ [] 0 0 := Stand.of_body Bd
  have e0 : s₁.heap = h0 := by rw [← hh, Bd.state]; rfl
  have N0 := Fr.nil n0
  show own_R p.tables e below (own_P s (Qco1_1 Z a1 k1 vv h0 n0) ({ frames := 0, cells := 0, slots := 0, locals := 0 } : Room).cells ({ frames := 0, cells := 0, slots := 0, locals := 0 } : Room).slots) (s₁.setTop (entryFrame m #[(.ref a1), (.int (1 : Int32))] 2))
  refine own_f s₁ (mkF m 0 #[.val (.ref a1), .val (.int (1 : Int32))] []) (fun t k => castTop (ef_co1_1 m a1 (1 : Int32)) k) ?_
  refine own_f s₁ (mkF m 1 #[.val (.ref a1), .val (.int (1 : Int32))] [(.int (1 : Int32))]) (fun t k => XS.iloadN X0.here hx rfl (hb hby dco1_1_0) rfl k) ?_
  refine own_f s₁ (mkF m 2 #[.val (.ref a1), .val (.int (1 : Int32))] [(.ref a1), (.int (1 : Int32))]) (fun t k => XS.aloadN X0.here hx rfl (hb hby dco1_1_1) rfl rfl k) ?_
  refine own_f s₁ (mkF m 3 #[.val (.ref a1), .val (.int (1 : Int32))] [(.int (1 : Int32)), (.int (1 : Int32))]) (fun t k => own_len X0 hx hZ e0 F0 (g := (mkF m 2 #[.val (.ref a1), .val (.int (1 : Int32))] [(.ref a1), (.int (1 : Int32))])) rfl rfl (hb hby dco1_1_2) k) ?_
  refine own_f s₁ (mkF m 4 #[.val (.ref a1), .val (.int (1 : Int32))] [(.int ((1 : Int32) - (1 : Int32)))]) (fun t k => XS.isub X0.here hx rfl (hb hby dco1_1_3) rfl k) ?_
  rw [show ((1 : Int32) - (1 : Int32)) = (0 : Int32) from by decide]
  refine own_f s₁ (mkF m 6 #[.val (.ref a1), .val (.int (1 : Int32))] [(.int (31 : Int32)), (.int (0 : Int32))]) (fun t k => XT.bipushV X0.here hx rfl (31 : Int32) (hb hby dco1_1_4) (by decide) k) ?_
  refine own_f s₁ (mkF m 7 #[.val (.ref a1), .val (.int (1 : Int32))] [(.int (((0 : Int32).toUInt32 >>> ((31 : Int32) &&& 31).toUInt32).toInt32))]) (fun t k => XS.iushr X0.here hx rfl (hb hby dco1_1_6) rfl k) ?_
  rw [show (((0 : Int32).toUInt32 >>> ((31 : Int32) &&& 31).toUInt32).toInt32) = (0 : Int32) from by decide]
  refine own_f s₁ (mkF m 8 #[.val (.ref a1), .val (.int (1 : Int32))] [(.int ((0 : Int32).toInt8.toInt32))]) (fun t k => XS.i2b X0.here hx rfl (hb hby dco1_1_7) rfl k) ?_
  rw [show ((0 : Int32).toInt8.toInt32) = (0 : Int32) from by decide]
  obtain ⟨fs, hr, hrun, hended, hW, hsame⟩ := X0.leave (v := some (.int (0 : Int32))) (fun h => by rw [Bd.returns] at h; cases h)
  refine ⟨_, _, own_retB X0 hx (t := .byte) Bd.returns (by simp) (by decide) (hb hby dco1_1_8) hr, hrun, hended, _, _, rfl, ?_, ⟨_, rfl⟩, hW, hsame.mono (by decide) (by decide)⟩
  show Qco1_1 Z a1 k1 vv h0 n0 _ s₁.heap _
  rw [e0]
  exact ⟨rfl, N0, rfl⟩
theorem ds41_0 : decode jdk_42_method_149_code 0 = .ok (.aload_n 0, 1) := by decide +kernel
theorem ds41_1 : decode jdk_42_method_149_code 1 = .ok (.invokespecial 1, 3) := by decide +kernel
theorem ds41_4 : decode jdk_42_method_149_code 4 = .ok (.iload_n 3, 1) := by decide +kernel
theorem ds41_5 : decode jdk_42_method_149_code 5 = .ok (.ifCond .ne 22, 3) := by decide +kernel
theorem ds41_27 : decode jdk_42_method_149_code 27 = .ok (.getstatic 38, 3) := by decide +kernel
theorem ds41_30 : decode jdk_42_method_149_code 30 = .ok (.ifCond .eq 28, 3) := by decide +kernel
theorem ds41_33 : decode jdk_42_method_149_code 33 = .ok (.aload_n 1, 1) := by decide +kernel
theorem ds41_34 : decode jdk_42_method_149_code 34 = .ok (.iload_n 2, 1) := by decide +kernel
theorem ds41_35 : decode jdk_42_method_149_code 35 = .ok (.iload_n 3, 1) := by decide +kernel
theorem ds41_36 : decode jdk_42_method_149_code 36 = .ok (.invokestatic 177, 3) := by decide +kernel
theorem ds41_39 : decode jdk_42_method_149_code 39 = .ok (.astore 5, 2) := by decide +kernel
theorem ds41_41 : decode jdk_42_method_149_code 41 = .ok (.aload_n 0, 1) := by decide +kernel
theorem ds41_42 : decode jdk_42_method_149_code 42 = .ok (.aload 5, 2) := by decide +kernel
theorem ds41_44 : decode jdk_42_method_149_code 44 = .ok (.iload_n 3, 1) := by decide +kernel
theorem ds41_45 : decode jdk_42_method_149_code 45 = .ok (.invokestatic 47, 3) := by decide +kernel
theorem ds41_48 : decode jdk_42_method_149_code 48 = .ok (.putfield 15, 3) := by decide +kernel
theorem ds41_51 : decode jdk_42_method_149_code 51 = .ok (.aload_n 0, 1) := by decide +kernel
theorem ds41_52 : decode jdk_42_method_149_code 52 = .ok (.aload 5, 2) := by decide +kernel
theorem ds41_54 : decode jdk_42_method_149_code 54 = .ok (.putfield 9, 3) := by decide +kernel
theorem ds41_57 : decode jdk_42_method_149_code 57 = .ok (.return_, 1) := by decide +kernel
theorem pn_s41 : plainName "java/lang/String" = true := by first | (simp [plainName, overriddenIn]; done) | decide +kernel
theorem ef_s41 (m : MethodId) (x0 : Addr) (x1 : Addr) (x2 : Int32) (x3 : Int32) : entryFrame m #[(.ref x0), (.ref x1), (.int x2), (.int x3), .null] 6 = mkF m 0 #[.val (.ref x0), .val (.ref x1), .val (.int x2), .val (.int x3), .val .null, .unset] [] := by first | (simp [entryFrame, mkF, argsToLocals, Value.category]; done) | rfl
def Qs41 (Z : State) (a1 : Addr) (a2 : Addr) (k2 : ClassId) (c0 : Int32) (u0 : Value) (u1 : Value) (wc : Int32) (h0 : Heap) (n0 : Nat) (v : Option Value) (h : Heap) (L : List Loc) : Prop := ∃ (b : Addr) (kb : ClassId), v = none ∧ Fr n0 L ∧ Keep h0 h [a1] ∧ Exa Z h a1 "java/lang/String" ∧ Fld Z h a1 "java/lang/String" "coder" "B" (.int (0 : Int32)) ∧ Fld Z h a1 "java/lang/String" "value" "[B" (.ref b) ∧ Arv Z h b kb .byte (1 : Int32) [.int (c0.toInt8.toInt32)] (.int 0) ∧ h0.size ≤ b
set_option maxRecDepth 65536 in
set_option maxHeartbeats 40000000 in
theorem rms41 (l : Launch) (Z : State) (a0 : Array Value) (hw : ∀ d ∈ tables_1, d.before a0 Z = true) (ws : List Jvm.Cond) (a1 : Addr) (a2 : Addr) (k2 : ClassId) (c0 : Int32) (u0 : Value) (u1 : Value) (wc : Int32) (h0 : Heap) (n0 : Nat) (Z0 : n0 ≤ h0.size) (F0 : Old Z n0 h0) (F1 : Exa Z h0 a1 "java/lang/String") (F2 : Fld Z h0 a1 "java/lang/String" "value" "[B" u0) (F3 : Fld Z h0 a1 "java/lang/String" "coder" "B" u1) (F4 : Arv Z h0 a2 k2 .char (1 : Int32) [.int c0] (.int 0)) (ge_a1 : n0 ≤ a1) (SC : Sta Z Z.heap "java/lang/String" "COMPACT_STRINGS" "Z" (.int wc)) (HWC : ¬ (wc = 0)) (hne : a2 ≠ a1) (hc_c0 : ¬ ((255 : Int32) < c0)) :
    MetFree l (⟨"java/lang/String", "<init>", "([CIILjava/lang/Void;)V"⟩ : MethodName) (head1 (Jvm.Cond.code (⟨"java/lang/String", "<init>", "([CIILjava/lang/Void;)V"⟩ : MethodName) jdk_42_method_149_code 6 none :: ws) ({ frames := 2, cells := 1, slots := 1, locals := 41 } : Room)) (fun a U => a = #[(.ref a1), (.ref a2), (.int (0 : Int32)), (.int (1 : Int32)), .null] ∧ Z.Warmed39 U.vm ∧ U.heap = h0) (fun _ _ _ _ _ => True) (fun _ U o U' => ∃ v L, o = .returned v ∧ Qs41 Z a1 a2 k2 c0 u0 u1 wc h0 n0 v U'.heap L ∧ FrameEnd U o U' L ({ frames := 2, cells := 1, slots := 1, locals := 41 } : Room).cells ({ frames := 2, cells := 1, slots := 1, locals := 41 } : Room).slots) := by
  refine MetFree.of_bodySF (plainFor_of_name pn_s41) hisR ?_
  intro p e s m args below meth c s₁ Bd hml0 hP hK
  obtain ⟨rfl, hZ, hh⟩ := hP
  have hx := Bd.exec
  have hby := Bd.bytes
  have hml : c.maxLocals = 6 := hml0
  have hown : s.vm.findClass "java/lang/String" = some m.cls := findClass_of_methodNamed Bd.named
  have hnm := (name_of_methodNamed Bd.named Bd.method).1
  have X0 : Stand p l e ({ frames := 2, cells := 1, slots := 1, locals := 41 } : Room) s m #[(.ref a1), (.ref a2), (.int (0 : Int32)), (.int (1 : Int32)), .null] below meth c s₁ [] 0 0 := Stand.of_body Bd
  have e0 : s₁.heap = h0 := by rw [← hh, Bd.state]; rfl
  have N0 := Fr.nil n0
  show own_R p.tables e below (own_P s (Qs41 Z a1 a2 k2 c0 u0 u1 wc h0 n0) ({ frames := 2, cells := 1, slots := 1, locals := 41 } : Room).cells ({ frames := 2, cells := 1, slots := 1, locals := 41 } : Room).slots) (s₁.setTop (entryFrame m #[(.ref a1), (.ref a2), (.int (0 : Int32)), (.int (1 : Int32)), .null] 6))
  refine own_f s₁ (mkF m 0 #[.val (.ref a1), .val (.ref a2), .val (.int (0 : Int32)), .val (.int (1 : Int32)), .val .null, .unset] []) (fun t k => castTop (ef_s41 m a1 a2 (0 : Int32) (1 : Int32)) k) ?_
  refine own_f s₁ (mkF m 1 #[.val (.ref a1), .val (.ref a2), .val (.int (0 : Int32)), .val (.int (1 : Int32)), .val .null, .unset] [(.ref a1)]) (fun t k => XS.aloadN X0.here hx rfl (hb hby ds41_0) rfl rfl k) ?_
  obtain ⟨T1, X1, e1, st1⟩ := initO X0 hx hZ hown (own_w hw 19 rfl) (own_w hw 20 rfl) (own_w hw 21 rfl) e0 (g := (mkF m 1 #[.val (.ref a1), .val (.ref a2), .val (.int (0 : Int32)), .val (.int (1 : Int32)), .val .null, .unset] [(.ref a1)])) rfl (by rw [hml]; rfl) rfl (hb hby ds41_1) (by decide) (W := 0) (by show 2 * 0 + _ ≤ _; exact Nat.le_of_eq rfl) (by decide)
  refine own_f T1 (mkF m 4 #[.val (.ref a1), .val (.ref a2), .val (.int (0 : Int32)), .val (.int (1 : Int32)), .val .null, .unset] []) st1 ?_
  refine own_f T1 (mkF m 5 #[.val (.ref a1), .val (.ref a2), .val (.int (0 : Int32)), .val (.int (1 : Int32)), .val .null, .unset] [(.int (1 : Int32))]) (fun t k => XS.iloadN X1.here hx rfl (hb hby ds41_4) rfl k) ?_
  refine own_f T1 (mkF m 27 #[.val (.ref a1), .val (.ref a2), .val (.int (0 : Int32)), .val (.int (1 : Int32)), .val .null, .unset] []) (fun t k => XS.ifYes X1.here hx rfl (pc0 := 5) (pc' := 27) rfl (hb hby ds41_5) rfl (XT.i0_ne_t (by decide)) (by decide) (by decide) k) ?_
  have S2 : Sta Z h0 "java/lang/String" "COMPACT_STRINGS" "Z" (.int wc) := SC.ext F0.2
  obtain ⟨T2, X2, e2, st2⟩ := getS X1 hx hZ (host := "") hown (own_w hw 36 rfl) Via.refl e1 S2 (g := (mkF m 27 #[.val (.ref a1), .val (.ref a2), .val (.int (0 : Int32)), .val (.int (1 : Int32)), .val .null, .unset] [])) rfl (hb hby ds41_27)
  refine own_f T2 (mkF m 30 #[.val (.ref a1), .val (.ref a2), .val (.int (0 : Int32)), .val (.int (1 : Int32)), .val .null, .unset] [(.int wc)]) st2 ?_
  refine own_f T2 (mkF m 33 #[.val (.ref a1), .val (.ref a2), .val (.int (0 : Int32)), .val (.int (1 : Int32)), .val .null, .unset] []) (fun t k => XS.ifNo X2.here hx rfl (hb hby ds41_30) rfl (XT.i0_eq_f HWC) k) ?_
  refine own_f T2 (mkF m 34 #[.val (.ref a1), .val (.ref a2), .val (.int (0 : Int32)), .val (.int (1 : Int32)), .val .null, .unset] [(.ref a2)]) (fun t k => XS.aloadN X2.here hx rfl (hb hby ds41_33) rfl rfl k) ?_
  refine own_f T2 (mkF m 35 #[.val (.ref a1), .val (.ref a2), .val (.int (0 : Int32)), .val (.int (1 : Int32)), .val .null, .unset] [(.int (0 : Int32)), (.ref a2)]) (fun t k => XS.iloadN X2.here hx rfl (hb hby ds41_34) rfl k) ?_
  refine own_f T2 (mkF m 36 #[.val (.ref a1), .val (.ref a2), .val (.int (0 : Int32)), .val (.int (1 : Int32)), .val .null, .unset] [(.int (1 : Int32)), (.int (0 : Int32)), (.ref a2)]) (fun t k => XS.iloadN X2.here hx rfl (hb hby ds41_35) rfl k) ?_
  obtain ⟨_, _, ⟨T3, Lq3, kq_3, nq_3⟩, -, X3, ⟨Lc3, hQ3, lq3, yq3, zq3⟩, st3⟩ := Jvm.LawKit.callS X2 hx (y := (⟨"java/lang/StringUTF16", "compress", "([CII)[B"⟩ : MethodName)) hown (mvT hZ (own_w hw 41 rfl)) (mvT hZ (own_w hw 42 rfl)) (mvT hZ (own_w hw 43 rfl)) (mvT hZ (own_w hw 44 rfl)) (by decide) (backOf (W := 0) (rmcb1 l Z a0 hw [] a2 _ _ h0 n0 Z0 F4 hc_c0) hZ (own_w hw 44 rfl) (own_w hw 43 rfl) (by decide) (by decide)) (g := (mkF m 36 #[.val (.ref a1), .val (.ref a2), .val (.int (0 : Int32)), .val (.int (1 : Int32)), .val .null, .unset] [(.int (1 : Int32)), (.int (0 : Int32)), (.ref a2)])) rfl (by rw [hml]; rfl) (argsL := [(.ref a2), (.int (0 : Int32)), (.int (1 : Int32))]) (rest := []) (lenOf pd__CII_B rfl) rfl (by show 2 * 0 + _ ≤ _; exact Nat.le_of_eq rfl) (hb hby ds41_36) (fun _ _ => ⟨rfl, e2, (by decide : 0 + 1 ≤ _), (by decide : 0 + 1 ≤ _)⟩)
  dsimp only [Pt.U, Pt.locs, Pt.cells, Pt.slots] at X3 lq3 yq3 zq3 st3 hQ3
  subst lq3 yq3 zq3
  obtain ⟨h3, e3⟩ : ∃ z, T3.heap = z := ⟨_, rfl⟩
  rw [e3] at hQ3
  unfold Qcb1 at hQ3
  obtain ⟨b3, kb3, rfl, Nq3, qh3, G3_0, H3_0⟩ := hQ3
  have N3 := Fr.app N0 Nq3
  have Zs3 : n0 ≤ h3.size := Nat.le_trans Z0 qh3.1
  have F_4 := F0.keep qh3 all0
  have F_5 := F1.keep qh3
  have F_6 := F2.keep qh3 nin0
  have F_7 := F3.keep qh3 nin0
  have F_8 := F4.keep qh3 nin0
  have K3 : Keep h0 h3 [a1] := (Keep.refl h0 [a1]).trans qh3 all0
  have ne3_a1 : a1 ≠ b3 := Nat.ne_of_lt (Nat.lt_of_lt_of_le F1.lt H3_0)
  have ne3_a2 : a2 ≠ b3 := Nat.ne_of_lt (Nat.lt_of_lt_of_le F4.lt H3_0)
  have ge3 : n0 ≤ b3 := Nat.le_trans Z0 H3_0
  have gf3 : h0.size ≤ b3 := Nat.le_trans (Keep.refl h0 [a1]).1 H3_0
  refine own_f T3 (mkF m 39 #[.val (.ref a1), .val (.ref a2), .val (.int (0 : Int32)), .val (.int (1 : Int32)), .val .null, .unset] [(.ref b3)]) st3 ?_
  refine own_f T3 (mkF m 41 #[.val (.ref a1), .val (.ref a2), .val (.int (0 : Int32)), .val (.int (1 : Int32)), .val .null, .val (.ref b3)] []) (fun t k => XS.astore X3.here hx rfl (hb hby ds41_39) rfl rfl (l' := #[.val (.ref a1), .val (.ref a2), .val (.int (0 : Int32)), .val (.int (1 : Int32)), .val .null, .val (.ref b3)]) rfl k) ?_
  refine own_f T3 (mkF m 42 #[.val (.ref a1), .val (.ref a2), .val (.int (0 : Int32)), .val (.int (1 : Int32)), .val .null, .val (.ref b3)] [(.ref a1)]) (fun t k => XS.aloadN X3.here hx rfl (hb hby ds41_41) rfl rfl k) ?_
  refine own_f T3 (mkF m 44 #[.val (.ref a1), .val (.ref a2), .val (.int (0 : Int32)), .val (.int (1 : Int32)), .val .null, .val (.ref b3)] [(.ref b3), (.ref a1)]) (fun t k => XS.aload X3.here hx rfl (hb hby ds41_42) rfl rfl k) ?_
  refine own_f T3 (mkF m 45 #[.val (.ref a1), .val (.ref a2), .val (.int (0 : Int32)), .val (.int (1 : Int32)), .val .null, .val (.ref b3)] [(.int (1 : Int32)), (.ref b3), (.ref a1)]) (fun t k => XS.iloadN X3.here hx rfl (hb hby ds41_44) rfl k) ?_
  obtain ⟨_, _, ⟨T9, Lq9, kq_9, nq_9⟩, -, X9, ⟨Lc9, hQ9, lq9, yq9, zq9⟩, st9⟩ := Jvm.LawKit.callS X3 hx (y := (⟨"java/lang/StringUTF16", "coderFromArrayLen", "([BI)B"⟩ : MethodName)) hown (mvT hZ (own_w hw 48 rfl)) (mvT hZ (own_w hw 49 rfl)) (mvT hZ (own_w hw 43 rfl)) (mvT hZ (own_w hw 50 rfl)) (by decide) (backOf (W := 1) (rmco1_1 l Z a0 hw [] b3 _ _ h3 n0 Zs3 G3_0) hZ (own_w hw 50 rfl) (own_w hw 43 rfl) (by decide) (by decide)) (g := (mkF m 45 #[.val (.ref a1), .val (.ref a2), .val (.int (0 : Int32)), .val (.int (1 : Int32)), .val .null, .val (.ref b3)] [(.int (1 : Int32)), (.ref b3), (.ref a1)])) rfl (by rw [hml]; rfl) (argsL := [(.ref b3), (.int (1 : Int32))]) (rest := [(.ref a1)]) (lenOf pd__BI_B rfl) rfl (by show 2 * 0 + _ ≤ _; exact Nat.le_of_eq rfl) (hb hby ds41_45) (fun _ _ => ⟨rfl, e3, (by decide : 0 + 1 + 0 ≤ _), (by decide : 0 + 1 + 0 ≤ _)⟩)
  dsimp only [Pt.U, Pt.locs, Pt.cells, Pt.slots] at X9 lq9 yq9 zq9 st9 hQ9
  subst lq9 yq9 zq9
  obtain ⟨h9, e9⟩ : ∃ z, T9.heap = z := ⟨_, rfl⟩
  rw [e9] at hQ9
  unfold Qco1_1 at hQ9
  obtain ⟨rfl, Nq9, qh9⟩ := hQ9
  have N9 := Fr.app N3 Nq9
  rw [qh9] at e9
  refine own_f T9 (mkF m 48 #[.val (.ref a1), .val (.ref a2), .val (.int (0 : Int32)), .val (.int (1 : Int32)), .val .null, .val (.ref b3)] [(.int (0 : Int32)), (.ref a1)]) st9 ?_
  obtain ⟨T10, h10, X10, e10, W10, st10⟩ := putF X9 hx hZ hown (host := "") (Or.inl (own_w hw 29 rfl)) Via.refl e9 F_7 F_5 (Or.inr ⟨(own_w hw 25 rfl), rfl, hnm⟩) (own_w hw 9 rfl) (ty := .byte) (by decide) rfl rfl (g := (mkF m 48 #[.val (.ref a1), .val (.ref a2), .val (.int (0 : Int32)), .val (.int (1 : Int32)), .val .null, .val (.ref b3)] [(.int (0 : Int32)), (.ref a1)])) rfl rfl (hb hby ds41_48)
  have N10 := Fr.snoc X10 N9 ge_a1
  have Zs10 : n0 ≤ h10.size := by rw [W10.size]; exact Zs3
  have K10 : Keep h0 h10 [a1] := K3.wr W10 (Or.inl (by simp))
  have F_11 := F_4.wr W10 ge_a1
  have F_12 := F_5.wr W10
  have F_13 := F_6.other W10 (Or.inr (slot_ne (Or.inr (own_w hw 24 rfl)) (Or.inr (own_w hw 25 rfl)) (by decide) (t := (.array .byte)) (t' := .byte) (by decide) (by decide)))
  have F_14 := F_7.same W10
  have F_15 := F_8.other W10 hne
  have F_16 := G3_0.other W10 (Ne.symm ne3_a1)
  refine own_f T10 (mkF m 51 #[.val (.ref a1), .val (.ref a2), .val (.int (0 : Int32)), .val (.int (1 : Int32)), .val .null, .val (.ref b3)] []) st10 ?_
  refine own_f T10 (mkF m 52 #[.val (.ref a1), .val (.ref a2), .val (.int (0 : Int32)), .val (.int (1 : Int32)), .val .null, .val (.ref b3)] [(.ref a1)]) (fun t k => XS.aloadN X10.here hx rfl (hb hby ds41_51) rfl rfl k) ?_
  refine own_f T10 (mkF m 54 #[.val (.ref a1), .val (.ref a2), .val (.int (0 : Int32)), .val (.int (1 : Int32)), .val .null, .val (.ref b3)] [(.ref b3), (.ref a1)]) (fun t k => XS.aload X10.here hx rfl (hb hby ds41_52) rfl rfl k) ?_
  obtain ⟨T17, h17, X17, e17, W17, st17⟩ := putF X10 hx hZ hown (host := "") (Or.inl (own_w hw 28 rfl)) Via.refl e10 F_13 F_12 (Or.inr ⟨(own_w hw 24 rfl), rfl, hnm⟩) (own_w hw 9 rfl) (ty := (.array .byte)) (by decide) rfl rfl (g := (mkF m 54 #[.val (.ref a1), .val (.ref a2), .val (.int (0 : Int32)), .val (.int (1 : Int32)), .val .null, .val (.ref b3)] [(.ref b3), (.ref a1)])) rfl rfl (hb hby ds41_54)
  have N17 := Fr.snoc X17 N10 ge_a1
  have Zs17 : n0 ≤ h17.size := by rw [W17.size]; exact Zs10
  have K17 : Keep h0 h17 [a1] := K10.wr W17 (Or.inl (by simp))
  have F_18 := F_11.wr W17 ge_a1
  have F_19 := F_12.wr W17
  have F_20 := F_13.same W17
  have F_21 := F_14.other W17 (Or.inr (slot_ne (Or.inr (own_w hw 25 rfl)) (Or.inr (own_w hw 24 rfl)) (by decide) (t := .byte) (t' := (.array .byte)) (by decide) (by decide)))
  have F_22 := F_15.other W17 hne
  have F_23 := F_16.other W17 (Ne.symm ne3_a1)
  refine own_f T17 (mkF m 57 #[.val (.ref a1), .val (.ref a2), .val (.int (0 : Int32)), .val (.int (1 : Int32)), .val .null, .val (.ref b3)] []) st17 ?_
  obtain ⟨fs, hr, hrun, hended, hW, hsame⟩ := X17.leave (v := none) (fun _ => rfl)
  refine ⟨_, _, X17.returnOut hx Bd.returns (hb hby ds41_57) hr, hrun, hended, _, _, rfl, ?_, ⟨_, rfl⟩, hW, hsame.mono (by decide) (by decide)⟩
  show Qs41 Z a1 a2 k2 c0 u0 u1 wc h0 n0 _ T17.heap _
  rw [e17]
  exact ⟨b3, kb3, rfl, N17, K17, F_19, F_21, F_20, F_23, gf3⟩
theorem ds21_0 : decode jdk_42_method_3_code 0 = .ok (.aload_n 0, 1) := by decide +kernel
theorem ds21_1 : decode jdk_42_method_3_code 1 = .ok (.aload_n 1, 1) := by decide +kernel
theorem ds21_2 : decode jdk_42_method_3_code 2 = .ok (.iconst 0, 1) := by decide +kernel
theorem ds21_3 : decode jdk_42_method_3_code 3 = .ok (.aload_n 1, 1) := by decide +kernel
theorem ds21_4 : decode jdk_42_method_3_code 4 = .ok (.arraylength, 1) := by decide +kernel
theorem ds21_5 : decode jdk_42_method_3_code 5 = .ok (.aconst_null, 1) := by decide +kernel
theorem ds21_6 : decode jdk_42_method_3_code 6 = .ok (.invokespecial 27, 3) := by decide +kernel
theorem ds21_9 : decode jdk_42_method_3_code 9 = .ok (.return_, 1) := by decide +kernel
theorem pn_s21 : plainName "java/lang/String" = true := by first | (simp [plainName, overriddenIn]; done) | decide +kernel
theorem ef_s21 (m : MethodId) (x0 : Addr) (x1 : Addr) : entryFrame m #[(.ref x0), (.ref x1)] 2 = mkF m 0 #[.val (.ref x0), .val (.ref x1)] [] := by first | (simp [entryFrame, mkF, argsToLocals, Value.category]; done) | rfl
def Qs21 (Z : State) (a1 : Addr) (a2 : Addr) (k2 : ClassId) (c0 : Int32) (u0 : Value) (u1 : Value) (wc : Int32) (h0 : Heap) (n0 : Nat) (v : Option Value) (h : Heap) (L : List Loc) : Prop := ∃ (b : Addr) (kb : ClassId), v = none ∧ Fr n0 L ∧ Keep h0 h [a1] ∧ Exa Z h a1 "java/lang/String" ∧ Fld Z h a1 "java/lang/String" "coder" "B" (.int (0 : Int32)) ∧ Fld Z h a1 "java/lang/String" "value" "[B" (.ref b) ∧ Arv Z h b kb .byte (1 : Int32) [.int (c0.toInt8.toInt32)] (.int 0) ∧ h0.size ≤ b
set_option maxRecDepth 65536 in
set_option maxHeartbeats 40000000 in
theorem rms21 (l : Launch) (Z : State) (a0 : Array Value) (hw : ∀ d ∈ tables_1, d.before a0 Z = true) (ws : List Jvm.Cond) (a1 : Addr) (a2 : Addr) (k2 : ClassId) (c0 : Int32) (u0 : Value) (u1 : Value) (wc : Int32) (h0 : Heap) (n0 : Nat) (Z0 : n0 ≤ h0.size) (F0 : Old Z n0 h0) (F1 : Exa Z h0 a1 "java/lang/String") (F2 : Fld Z h0 a1 "java/lang/String" "value" "[B" u0) (F3 : Fld Z h0 a1 "java/lang/String" "coder" "B" u1) (F4 : Arv Z h0 a2 k2 .char (1 : Int32) [.int c0] (.int 0)) (ge_a1 : n0 ≤ a1) (SC : Sta Z Z.heap "java/lang/String" "COMPACT_STRINGS" "Z" (.int wc)) (HWC : ¬ (wc = 0)) (hne : a2 ≠ a1) (hc_c0 : ¬ ((255 : Int32) < c0)) :
    MetFree l (⟨"java/lang/String", "<init>", "([C)V"⟩ : MethodName) (head1 (Jvm.Cond.code (⟨"java/lang/String", "<init>", "([C)V"⟩ : MethodName) jdk_42_method_3_code 2 none :: ws) ({ frames := 3, cells := 1, slots := 1, locals := 58 } : Room)) (fun a U => a = #[(.ref a1), (.ref a2)] ∧ Z.Warmed39 U.vm ∧ U.heap = h0) (fun _ _ _ _ _ => True) (fun _ U o U' => ∃ v L, o = .returned v ∧ Qs21 Z a1 a2 k2 c0 u0 u1 wc h0 n0 v U'.heap L ∧ FrameEnd U o U' L ({ frames := 3, cells := 1, slots := 1, locals := 58 } : Room).cells ({ frames := 3, cells := 1, slots := 1, locals := 58 } : Room).slots) := by
  refine MetFree.of_bodySF (plainFor_of_name pn_s21) hisR ?_
  intro p e s m args below meth c s₁ Bd hml0 hP hK
  obtain ⟨rfl, hZ, hh⟩ := hP
  have hx := Bd.exec
  have hby := Bd.bytes
  have hml : c.maxLocals = 2 := hml0
  have hown : s.vm.findClass "java/lang/String" = some m.cls := findClass_of_methodNamed Bd.named
  have hnm := (name_of_methodNamed Bd.named Bd.method).1
  have X0 : Stand p l e ({ frames := 3, cells := 1, slots := 1, locals := 58 } : Room) s m #[(.ref a1), (.ref a2)] below meth c s₁ [] 0 0 := Stand.of_body Bd
  have e0 : s₁.heap = h0 := by rw [← hh, Bd.state]; rfl
  have N0 := Fr.nil n0
  show own_R p.tables e below (own_P s (Qs21 Z a1 a2 k2 c0 u0 u1 wc h0 n0) ({ frames := 3, cells := 1, slots := 1, locals := 58 } : Room).cells ({ frames := 3, cells := 1, slots := 1, locals := 58 } : Room).slots) (s₁.setTop (entryFrame m #[(.ref a1), (.ref a2)] 2))
  refine own_f s₁ (mkF m 0 #[.val (.ref a1), .val (.ref a2)] []) (fun t k => castTop (ef_s21 m a1 a2) k) ?_
  refine own_f s₁ (mkF m 1 #[.val (.ref a1), .val (.ref a2)] [(.ref a1)]) (fun t k => XS.aloadN X0.here hx rfl (hb hby ds21_0) rfl rfl k) ?_
  refine own_f s₁ (mkF m 2 #[.val (.ref a1), .val (.ref a2)] [(.ref a2), (.ref a1)]) (fun t k => XS.aloadN X0.here hx rfl (hb hby ds21_1) rfl rfl k) ?_
  refine own_f s₁ (mkF m 3 #[.val (.ref a1), .val (.ref a2)] [(.int (0 : Int32)), (.ref a2), (.ref a1)]) (fun t k => XT.iconstV X0.here hx rfl (0 : Int32) (hb hby ds21_2) (by decide) k) ?_
  refine own_f s₁ (mkF m 4 #[.val (.ref a1), .val (.ref a2)] [(.ref a2), (.int (0 : Int32)), (.ref a2), (.ref a1)]) (fun t k => XS.aloadN X0.here hx rfl (hb hby ds21_3) rfl rfl k) ?_
  refine own_f s₁ (mkF m 5 #[.val (.ref a1), .val (.ref a2)] [(.int (1 : Int32)), (.int (0 : Int32)), (.ref a2), (.ref a1)]) (fun t k => own_len X0 hx hZ e0 F4 (g := (mkF m 4 #[.val (.ref a1), .val (.ref a2)] [(.ref a2), (.int (0 : Int32)), (.ref a2), (.ref a1)])) rfl rfl (hb hby ds21_4) k) ?_
  refine own_f s₁ (mkF m 6 #[.val (.ref a1), .val (.ref a2)] [.null, (.int (1 : Int32)), (.int (0 : Int32)), (.ref a2), (.ref a1)]) (fun t k => XS.aconstNull X0.here hx rfl (hb hby ds21_5) k) ?_
  obtain ⟨_, _, ⟨T2, Lq2, kq_2, nq_2⟩, -, X2, ⟨Lc2, hQ2, lq2, yq2, zq2⟩, st2⟩ := X0.specialBack hx (y := (⟨"java/lang/String", "<init>", "([CIILjava/lang/Void;)V"⟩ : MethodName)) rfl hown (mvT hZ (own_w hw 15 rfl)) (mvT hZ (own_w hw 16 rfl)) (mvT hZ (own_w hw 18 rfl)) (by decide) (backOf (W := 0) (rms41 l Z a0 hw [] a1 a2 _ _ _ _ _ h0 n0 Z0 F0 F1 F2 F3 F4 ge_a1 SC HWC hne hc_c0) hZ (own_w hw 18 rfl) (own_w hw 10 rfl) (by decide) (by decide)) (g := (mkF m 6 #[.val (.ref a1), .val (.ref a2)] [.null, (.int (1 : Int32)), (.int (0 : Int32)), (.ref a2), (.ref a1)])) rfl (by rw [hml]; rfl) (Steps.refl _) (a := a1) (argsL := [(.ref a2), (.int (0 : Int32)), (.int (1 : Int32)), .null]) (rest := []) (lenOf pd__CIILjava_lang_Void_V rfl) rfl (by show 2 * 0 + _ ≤ _; exact Nat.le_of_eq rfl) (hb hby ds21_6) (fun _ _ => ⟨rfl, e0, (by decide : 0 + 1 ≤ _), (by decide : 0 + 1 ≤ _)⟩)
  dsimp only [Pt.U, Pt.locs, Pt.cells, Pt.slots] at X2 lq2 yq2 zq2 st2 hQ2
  subst lq2 yq2 zq2
  obtain ⟨h2, e2⟩ : ∃ z, T2.heap = z := ⟨_, rfl⟩
  rw [e2] at hQ2
  unfold Qs41 at hQ2
  obtain ⟨b2, kb2, rfl, Nq2, qh2, G2_0, G2_1, G2_2, G2_3, H2_0⟩ := hQ2
  have N2 := Fr.app N0 Nq2
  have Zs2 : n0 ≤ h2.size := Nat.le_trans Z0 qh2.1
  have F_3 := F0.keep qh2 (allS ge_a1 all0)
  have F_4 := F4.keep qh2 (ninS hne nin0)
  have K2 : Keep h0 h2 [a1] := (Keep.refl h0 [a1]).trans qh2 (allS (Or.inl (by simp)) all0)
  have ne2_a1 : a1 ≠ b2 := Nat.ne_of_lt (Nat.lt_of_lt_of_le F1.lt H2_0)
  have ne2_a2 : a2 ≠ b2 := Nat.ne_of_lt (Nat.lt_of_lt_of_le F4.lt H2_0)
  have ge2 : n0 ≤ b2 := Nat.le_trans Z0 H2_0
  have gf2 : h0.size ≤ b2 := Nat.le_trans (Keep.refl h0 [a1]).1 H2_0
  refine own_g T2 (mkF m 9 #[.val (.ref a1), .val (.ref a2)] []) st2 ?_
  obtain ⟨fs, hr, hrun, hended, hW, hsame⟩ := X2.leave (v := none) (fun _ => rfl)
  refine ⟨_, _, X2.returnOut hx Bd.returns (hb hby ds21_9) hr, hrun, hended, _, _, rfl, ?_, ⟨_, rfl⟩, hW, hsame.mono (by decide) (by decide)⟩
  show Qs21 Z a1 a2 k2 c0 u0 u1 wc h0 n0 _ T2.heap _
  rw [e2]
  exact ⟨b2, kb2, rfl, N2, K2, G2_0, G2_1, G2_2, G2_3, gf2⟩
theorem dci2_0 : decode jdk_52_method_21_code 0 = .ok (.iconst 0, 1) := by decide +kernel
theorem dci2_1 : decode jdk_52_method_21_code 1 = .ok (.istore 5, 2) := by decide +kernel
theorem dci2_3 : decode jdk_52_method_21_code 3 = .ok (.iload 5, 2) := by decide +kernel
theorem dci2_5 : decode jdk_52_method_21_code 5 = .ok (.iload 4, 2) := by decide +kernel
theorem dci2_7 : decode jdk_52_method_21_code 7 = .ok (.if_icmp .ge 37, 3) := by decide +kernel
theorem dci2_10 : decode jdk_52_method_21_code 10 = .ok (.aload_n 0, 1) := by decide +kernel
theorem dci2_11 : decode jdk_52_method_21_code 11 = .ok (.iload_n 1, 1) := by decide +kernel
theorem dci2_12 : decode jdk_52_method_21_code 12 = .ok (.caload, 1) := by decide +kernel
theorem dci2_13 : decode jdk_52_method_21_code 13 = .ok (.istore 6, 2) := by decide +kernel
theorem dci2_15 : decode jdk_52_method_21_code 15 = .ok (.iload 6, 2) := by decide +kernel
theorem dci2_17 : decode jdk_52_method_21_code 17 = .ok (.sipush 255, 3) := by decide +kernel
theorem dci2_20 : decode jdk_52_method_21_code 20 = .ok (.if_icmp .le 6, 3) := by decide +kernel
theorem dci2_26 : decode jdk_52_method_21_code 26 = .ok (.aload_n 2, 1) := by decide +kernel
theorem dci2_27 : decode jdk_52_method_21_code 27 = .ok (.iload_n 3, 1) := by decide +kernel
theorem dci2_28 : decode jdk_52_method_21_code 28 = .ok (.iload 6, 2) := by decide +kernel
theorem dci2_30 : decode jdk_52_method_21_code 30 = .ok (.i2b, 1) := by decide +kernel
theorem dci2_31 : decode jdk_52_method_21_code 31 = .ok (.bastore, 1) := by decide +kernel
theorem dci2_32 : decode jdk_52_method_21_code 32 = .ok (.iinc 1 1, 3) := by decide +kernel
theorem dci2_35 : decode jdk_52_method_21_code 35 = .ok (.iinc 3 1, 3) := by decide +kernel
theorem dci2_38 : decode jdk_52_method_21_code 38 = .ok (.iinc 5 1, 3) := by decide +kernel
theorem dci2_41 : decode jdk_52_method_21_code 41 = .ok (.goto (-38), 3) := by decide +kernel
theorem dci2_44 : decode jdk_52_method_21_code 44 = .ok (.iload 4, 2) := by decide +kernel
theorem dci2_46 : decode jdk_52_method_21_code 46 = .ok (.ireturn, 1) := by decide +kernel
theorem pn_ci2 : plainName "java/lang/StringUTF16" = true := by first | (simp [plainName, overriddenIn]; done) | decide +kernel
theorem ef_ci2 (m : MethodId) (x0 : Addr) (x1 : Int32) (x2 : Addr) (x3 : Int32) (x4 : Int32) : entryFrame m #[(.ref x0), (.int x1), (.ref x2), (.int x3), (.int x4)] 7 = mkF m 0 #[.val (.ref x0), .val (.int x1), .val (.ref x2), .val (.int x3), .val (.int x4), .unset, .unset] [] := by first | (simp [entryFrame, mkF, argsToLocals, Value.category]; done) | rfl
def Qci2 (Z : State) (a1 : Addr) (a2 : Addr) (k1 : ClassId) (k2 : ClassId) (c0 : Int32) (c1 : Int32) (h0 : Heap) (n0 : Nat) (v : Option Value) (h : Heap) (L : List Loc) : Prop := v = some (.int (2 : Int32)) ∧ Fr n0 L ∧ Keep h0 h [a2] ∧ Arv Z h a2 k2 .byte (2 : Int32) [.int (c0.toInt8.toInt32), .int (c1.toInt8.toInt32)] (.int 0)
set_option maxRecDepth 65536 in
set_option maxHeartbeats 40000000 in
theorem rmci2 (l : Launch) (Z : State) (a0 : Array Value) (hw : ∀ d ∈ tables_1, d.before a0 Z = true) (ws : List Jvm.Cond) (a1 : Addr) (a2 : Addr) (k1 : ClassId) (k2 : ClassId) (c0 : Int32) (c1 : Int32) (h0 : Heap) (n0 : Nat) (Z0 : n0 ≤ h0.size) (F0 : Arv Z h0 a1 k1 .char (2 : Int32) [.int c0, .int c1] (.int 0)) (F1 : Arv Z h0 a2 k2 .byte (2 : Int32) [.int 0, .int 0] (.int 0)) (ge_a2 : n0 ≤ a2) (hne : a1 ≠ a2) (hc_c0 : ¬ ((255 : Int32) < c0)) (hc_c1 : ¬ ((255 : Int32) < c1)) :
    MetFree l (⟨"java/lang/StringUTF16", "compress", "([CI[BII)I"⟩ : MethodName) (head1 (Jvm.Cond.code (⟨"java/lang/StringUTF16", "compress", "([CI[BII)I"⟩ : MethodName) jdk_52_method_21_code 7 (some .int) :: ws) ({ frames := 0, cells := 0, slots := 0, locals := 0 } : Room)) (fun a U => a = #[(.ref a1), (.int (0 : Int32)), (.ref a2), (.int (0 : Int32)), (.int (2 : Int32))] ∧ Z.Warmed39 U.vm ∧ U.heap = h0) (fun _ _ _ _ _ => True) (fun _ U o U' => ∃ v L, o = .returned v ∧ Qci2 Z a1 a2 k1 k2 c0 c1 h0 n0 v U'.heap L ∧ FrameEnd U o U' L ({ frames := 0, cells := 0, slots := 0, locals := 0 } : Room).cells ({ frames := 0, cells := 0, slots := 0, locals := 0 } : Room).slots) := by
  refine MetFree.of_bodySF (plainFor_of_name pn_ci2) hisR ?_
  intro p e s m args below meth c s₁ Bd hml0 hP hK
  obtain ⟨rfl, hZ, hh⟩ := hP
  have hx := Bd.exec
  have hby := Bd.bytes
  have hml : c.maxLocals = 7 := hml0
  have hown : s.vm.findClass "java/lang/StringUTF16" = some m.cls := findClass_of_methodNamed Bd.named
  have hnm := (name_of_methodNamed Bd.named Bd.method).1
  have X0 : Stand p l e ({ frames := 0, cells := 0, slots := 0, locals := 0 } : Room) s m #[(.ref a1), (.int (0 : Int32)), (.ref a2), (.int (0 : Int32)), (.int (2 : Int32))] below meth c s₁ [] 0 0 := Stand.of_body Bd
  have e0 : s₁.heap = h0 := by rw [← hh, Bd.state]; rfl
  have N0 := Fr.nil n0
  show own_R p.tables e below (own_P s (Qci2 Z a1 a2 k1 k2 c0 c1 h0 n0) ({ frames := 0, cells := 0, slots := 0, locals := 0 } : Room).cells ({ frames := 0, cells := 0, slots := 0, locals := 0 } : Room).slots) (s₁.setTop (entryFrame m #[(.ref a1), (.int (0 : Int32)), (.ref a2), (.int (0 : Int32)), (.int (2 : Int32))] 7))
  refine own_f s₁ (mkF m 0 #[.val (.ref a1), .val (.int (0 : Int32)), .val (.ref a2), .val (.int (0 : Int32)), .val (.int (2 : Int32)), .unset, .unset] []) (fun t k => castTop (ef_ci2 m a1 (0 : Int32) a2 (0 : Int32) (2 : Int32)) k) ?_
  refine own_f s₁ (mkF m 1 #[.val (.ref a1), .val (.int (0 : Int32)), .val (.ref a2), .val (.int (0 : Int32)), .val (.int (2 : Int32)), .unset, .unset] [(.int (0 : Int32))]) (fun t k => XT.iconstV X0.here hx rfl (0 : Int32) (hb hby dci2_0) (by decide) k) ?_
  refine own_f s₁ (mkF m 3 #[.val (.ref a1), .val (.int (0 : Int32)), .val (.ref a2), .val (.int (0 : Int32)), .val (.int (2 : Int32)), .val (.int (0 : Int32)), .unset] []) (fun t k => XS.istore X0.here hx rfl (hb hby dci2_1) rfl (l' := #[.val (.ref a1), .val (.int (0 : Int32)), .val (.ref a2), .val (.int (0 : Int32)), .val (.int (2 : Int32)), .val (.int (0 : Int32)), .unset]) rfl k) ?_
  refine own_f s₁ (mkF m 5 #[.val (.ref a1), .val (.int (0 : Int32)), .val (.ref a2), .val (.int (0 : Int32)), .val (.int (2 : Int32)), .val (.int (0 : Int32)), .unset] [(.int (0 : Int32))]) (fun t k => XS.iload X0.here hx rfl (hb hby dci2_3) rfl k) ?_
  refine own_f s₁ (mkF m 7 #[.val (.ref a1), .val (.int (0 : Int32)), .val (.ref a2), .val (.int (0 : Int32)), .val (.int (2 : Int32)), .val (.int (0 : Int32)), .unset] [(.int (2 : Int32)), (.int (0 : Int32))]) (fun t k => XS.iload X0.here hx rfl (hb hby dci2_5) rfl k) ?_
  refine own_f s₁ (mkF m 10 #[.val (.ref a1), .val (.int (0 : Int32)), .val (.ref a2), .val (.int (0 : Int32)), .val (.int (2 : Int32)), .val (.int (0 : Int32)), .unset] []) (fun t k => XS.icmpNo X0.here hx rfl (hb hby dci2_7) rfl (XT.ii_ge_f (by decide)) k) ?_
  refine own_f s₁ (mkF m 11 #[.val (.ref a1), .val (.int (0 : Int32)), .val (.ref a2), .val (.int (0 : Int32)), .val (.int (2 : Int32)), .val (.int (0 : Int32)), .unset] [(.ref a1)]) (fun t k => XS.aloadN X0.here hx rfl (hb hby dci2_10) rfl rfl k) ?_
  refine own_f s₁ (mkF m 12 #[.val (.ref a1), .val (.int (0 : Int32)), .val (.ref a2), .val (.int (0 : Int32)), .val (.int (2 : Int32)), .val (.int (0 : Int32)), .unset] [(.int (0 : Int32)), (.ref a1)]) (fun t k => XS.iloadN X0.here hx rfl (hb hby dci2_11) rfl k) ?_
  obtain ⟨cl1, Ar1, q11, Sz1, q31, Hs1, Gs1⟩ := id F0
  have hi1 := inb_of (j := (0 : Int32)) Sz1 ⟨by decide, by decide⟩
  refine own_f s₁ (mkF m 13 #[.val (.ref a1), .val (.int (0 : Int32)), .val (.ref a2), .val (.int (0 : Int32)), .val (.int (2 : Int32)), .val (.int (0 : Int32)), .unset] [(.int c0)]) (fun t k => X0.caload hx (j := (0 : Int32)) (v := (.int c0)) (by rw [e0]; exact Ar1.1) (State.isArrayOf_alike hZ.alike Ar1.2.1) Ar1.2.2 hi1 (Has.at Hs1 hi1 rfl) (g := (mkF m 12 #[.val (.ref a1), .val (.int (0 : Int32)), .val (.ref a2), .val (.int (0 : Int32)), .val (.int (2 : Int32)), .val (.int (0 : Int32)), .unset] [(.int (0 : Int32)), (.ref a1)])) rfl rfl (hb hby dci2_12) t k) ?_
  refine own_f s₁ (mkF m 15 #[.val (.ref a1), .val (.int (0 : Int32)), .val (.ref a2), .val (.int (0 : Int32)), .val (.int (2 : Int32)), .val (.int (0 : Int32)), .val (.int c0)] []) (fun t k => XS.istore X0.here hx rfl (hb hby dci2_13) rfl (l' := #[.val (.ref a1), .val (.int (0 : Int32)), .val (.ref a2), .val (.int (0 : Int32)), .val (.int (2 : Int32)), .val (.int (0 : Int32)), .val (.int c0)]) rfl k) ?_
  refine own_f s₁ (mkF m 17 #[.val (.ref a1), .val (.int (0 : Int32)), .val (.ref a2), .val (.int (0 : Int32)), .val (.int (2 : Int32)), .val (.int (0 : Int32)), .val (.int c0)] [(.int c0)]) (fun t k => XS.iload X0.here hx rfl (hb hby dci2_15) rfl k) ?_
  refine own_f s₁ (mkF m 20 #[.val (.ref a1), .val (.int (0 : Int32)), .val (.ref a2), .val (.int (0 : Int32)), .val (.int (2 : Int32)), .val (.int (0 : Int32)), .val (.int c0)] [(.int (255 : Int32)), (.int c0)]) (fun t k => XT.sipushV X0.here hx rfl (255 : Int32) (hb hby dci2_17) (by decide) k) ?_
  refine own_f s₁ (mkF m 26 #[.val (.ref a1), .val (.int (0 : Int32)), .val (.ref a2), .val (.int (0 : Int32)), .val (.int (2 : Int32)), .val (.int (0 : Int32)), .val (.int c0)] []) (fun t k => XS.icmpYes X0.here hx rfl (pc0 := 20) (pc' := 26) rfl (hb hby dci2_20) rfl (XT.ii_le_t hc_c0) (by decide) (by decide) k) ?_
  refine own_f s₁ (mkF m 27 #[.val (.ref a1), .val (.int (0 : Int32)), .val (.ref a2), .val (.int (0 : Int32)), .val (.int (2 : Int32)), .val (.int (0 : Int32)), .val (.int c0)] [(.ref a2)]) (fun t k => XS.aloadN X0.here hx rfl (hb hby dci2_26) rfl rfl k) ?_
  refine own_f s₁ (mkF m 28 #[.val (.ref a1), .val (.int (0 : Int32)), .val (.ref a2), .val (.int (0 : Int32)), .val (.int (2 : Int32)), .val (.int (0 : Int32)), .val (.int c0)] [(.int (0 : Int32)), (.ref a2)]) (fun t k => XS.iloadN X0.here hx rfl (hb hby dci2_27) rfl k) ?_
  refine own_f s₁ (mkF m 30 #[.val (.ref a1), .val (.int (0 : Int32)), .val (.ref a2), .val (.int (0 : Int32)), .val (.int (2 : Int32)), .val (.int (0 : Int32)), .val (.int c0)] [(.int c0), (.int (0 : Int32)), (.ref a2)]) (fun t k => XS.iload X0.here hx rfl (hb hby dci2_28) rfl k) ?_
  refine own_f s₁ (mkF m 31 #[.val (.ref a1), .val (.int (0 : Int32)), .val (.ref a2), .val (.int (0 : Int32)), .val (.int (2 : Int32)), .val (.int (0 : Int32)), .val (.int c0)] [(.int (c0.toInt8.toInt32)), (.int (0 : Int32)), (.ref a2)]) (fun t k => XS.i2b X0.here hx rfl (hb hby dci2_30) rfl k) ?_
  obtain ⟨cl2, Ar2, q12, Sz2, q32, Hs2, Gs2⟩ := id F1
  obtain ⟨T2, h2, X2, e2, W2, st2⟩ := stB X0 hx hZ e0 Ar2 (j := (0 : Int32)) (inb_of Sz2 ⟨by decide, by decide⟩) (g := (mkF m 31 #[.val (.ref a1), .val (.int (0 : Int32)), .val (.ref a2), .val (.int (0 : Int32)), .val (.int (2 : Int32)), .val (.int (0 : Int32)), .val (.int c0)] [(.int (c0.toInt8.toInt32)), (.int (0 : Int32)), (.ref a2)])) rfl rfl (hb hby dci2_31)
  have N2 := Fr.snoc X2 N0 ge_a2
  have Zs2 : n0 ≤ h2.size := by rw [W2.size]; exact Z0
  have K2 : Keep h0 h2 [a2] := (Keep.refl h0 [a2]).wr W2 (Or.inl (by simp))
  have F_3 := F0.other W2 hne
  have F_4 : Arv Z h2 a2 k2 .byte (2 : Int32) [.int (c0.toInt8.toInt32), .int 0] (.int 0) := Arv.set Ar2 q12 Sz2 q32 Hs2 Gs2 (by rw [← ((own_narB _) : nar .byte (c0.toInt8.toInt32) = (c0.toInt8.toInt32))]; exact own_fitB _) (by rw [((own_narB _) : nar .byte (c0.toInt8.toInt32) = (c0.toInt8.toInt32))] at W2; exact W2) 0 (by decide) (by simp)
  refine own_f T2 (mkF m 32 #[.val (.ref a1), .val (.int (0 : Int32)), .val (.ref a2), .val (.int (0 : Int32)), .val (.int (2 : Int32)), .val (.int (0 : Int32)), .val (.int c0)] []) st2 ?_
  refine own_f T2 (mkF m 35 #[.val (.ref a1), .val (.int ((0 : Int32) + (1 : Int32))), .val (.ref a2), .val (.int (0 : Int32)), .val (.int (2 : Int32)), .val (.int (0 : Int32)), .val (.int c0)] []) (fun t k => XT.iincV X2.here hx rfl (l' := #[.val (.ref a1), .val (.int ((0 : Int32) + (1 : Int32))), .val (.ref a2), .val (.int (0 : Int32)), .val (.int (2 : Int32)), .val (.int (0 : Int32)), .val (.int c0)]) (1 : Int32) (hb hby dci2_32) (by decide) rfl rfl k) ?_
  rw [show ((0 : Int32) + (1 : Int32)) = (1 : Int32) from by decide]
  refine own_f T2 (mkF m 38 #[.val (.ref a1), .val (.int (1 : Int32)), .val (.ref a2), .val (.int ((0 : Int32) + (1 : Int32))), .val (.int (2 : Int32)), .val (.int (0 : Int32)), .val (.int c0)] []) (fun t k => XT.iincV X2.here hx rfl (l' := #[.val (.ref a1), .val (.int (1 : Int32)), .val (.ref a2), .val (.int ((0 : Int32) + (1 : Int32))), .val (.int (2 : Int32)), .val (.int (0 : Int32)), .val (.int c0)]) (1 : Int32) (hb hby dci2_35) (by decide) rfl rfl k) ?_
  rw [show ((0 : Int32) + (1 : Int32)) = (1 : Int32) from by decide]
  refine own_f T2 (mkF m 41 #[.val (.ref a1), .val (.int (1 : Int32)), .val (.ref a2), .val (.int (1 : Int32)), .val (.int (2 : Int32)), .val (.int ((0 : Int32) + (1 : Int32))), .val (.int c0)] []) (fun t k => XT.iincV X2.here hx rfl (l' := #[.val (.ref a1), .val (.int (1 : Int32)), .val (.ref a2), .val (.int (1 : Int32)), .val (.int (2 : Int32)), .val (.int ((0 : Int32) + (1 : Int32))), .val (.int c0)]) (1 : Int32) (hb hby dci2_38) (by decide) rfl rfl k) ?_
  rw [show ((0 : Int32) + (1 : Int32)) = (1 : Int32) from by decide]
  refine own_f T2 (mkF m 3 #[.val (.ref a1), .val (.int (1 : Int32)), .val (.ref a2), .val (.int (1 : Int32)), .val (.int (2 : Int32)), .val (.int (1 : Int32)), .val (.int c0)] []) (fun t k => XS.goto X2.here hx rfl (pc0 := 41) (pc' := 3) rfl (hb hby dci2_41) (by decide) (by decide) k) ?_
  refine own_f T2 (mkF m 5 #[.val (.ref a1), .val (.int (1 : Int32)), .val (.ref a2), .val (.int (1 : Int32)), .val (.int (2 : Int32)), .val (.int (1 : Int32)), .val (.int c0)] [(.int (1 : Int32))]) (fun t k => XS.iload X2.here hx rfl (hb hby dci2_3) rfl k) ?_
  refine own_f T2 (mkF m 7 #[.val (.ref a1), .val (.int (1 : Int32)), .val (.ref a2), .val (.int (1 : Int32)), .val (.int (2 : Int32)), .val (.int (1 : Int32)), .val (.int c0)] [(.int (2 : Int32)), (.int (1 : Int32))]) (fun t k => XS.iload X2.here hx rfl (hb hby dci2_5) rfl k) ?_
  refine own_f T2 (mkF m 10 #[.val (.ref a1), .val (.int (1 : Int32)), .val (.ref a2), .val (.int (1 : Int32)), .val (.int (2 : Int32)), .val (.int (1 : Int32)), .val (.int c0)] []) (fun t k => XS.icmpNo X2.here hx rfl (hb hby dci2_7) rfl (XT.ii_ge_f (by decide)) k) ?_
  refine own_f T2 (mkF m 11 #[.val (.ref a1), .val (.int (1 : Int32)), .val (.ref a2), .val (.int (1 : Int32)), .val (.int (2 : Int32)), .val (.int (1 : Int32)), .val (.int c0)] [(.ref a1)]) (fun t k => XS.aloadN X2.here hx rfl (hb hby dci2_10) rfl rfl k) ?_
  refine own_f T2 (mkF m 12 #[.val (.ref a1), .val (.int (1 : Int32)), .val (.ref a2), .val (.int (1 : Int32)), .val (.int (2 : Int32)), .val (.int (1 : Int32)), .val (.int c0)] [(.int (1 : Int32)), (.ref a1)]) (fun t k => XS.iloadN X2.here hx rfl (hb hby dci2_11) rfl k) ?_
  obtain ⟨cl5, Ar5, q15, Sz5, q35, Hs5, Gs5⟩ := id F_3
  have hi5 := inb_of (j := (1 : Int32)) Sz5 ⟨by decide, by decide⟩
  refine own_f T2 (mkF m 13 #[.val (.ref a1), .val (.int (1 : Int32)), .val (.ref a2), .val (.int (1 : Int32)), .val (.int (2 : Int32)), .val (.int (1 : Int32)), .val (.int c0)] [(.int c1)]) (fun t k => X2.caload hx (j := (1 : Int32)) (v := (.int c1)) (by rw [e2]; exact Ar5.1) (State.isArrayOf_alike hZ.alike Ar5.2.1) Ar5.2.2 hi5 (Has.at Hs5 hi5 rfl) (g := (mkF m 12 #[.val (.ref a1), .val (.int (1 : Int32)), .val (.ref a2), .val (.int (1 : Int32)), .val (.int (2 : Int32)), .val (.int (1 : Int32)), .val (.int c0)] [(.int (1 : Int32)), (.ref a1)])) rfl rfl (hb hby dci2_12) t k) ?_
  refine own_f T2 (mkF m 15 #[.val (.ref a1), .val (.int (1 : Int32)), .val (.ref a2), .val (.int (1 : Int32)), .val (.int (2 : Int32)), .val (.int (1 : Int32)), .val (.int c1)] []) (fun t k => XS.istore X2.here hx rfl (hb hby dci2_13) rfl (l' := #[.val (.ref a1), .val (.int (1 : Int32)), .val (.ref a2), .val (.int (1 : Int32)), .val (.int (2 : Int32)), .val (.int (1 : Int32)), .val (.int c1)]) rfl k) ?_
  refine own_f T2 (mkF m 17 #[.val (.ref a1), .val (.int (1 : Int32)), .val (.ref a2), .val (.int (1 : Int32)), .val (.int (2 : Int32)), .val (.int (1 : Int32)), .val (.int c1)] [(.int c1)]) (fun t k => XS.iload X2.here hx rfl (hb hby dci2_15) rfl k) ?_
  refine own_f T2 (mkF m 20 #[.val (.ref a1), .val (.int (1 : Int32)), .val (.ref a2), .val (.int (1 : Int32)), .val (.int (2 : Int32)), .val (.int (1 : Int32)), .val (.int c1)] [(.int (255 : Int32)), (.int c1)]) (fun t k => XT.sipushV X2.here hx rfl (255 : Int32) (hb hby dci2_17) (by decide) k) ?_
  refine own_f T2 (mkF m 26 #[.val (.ref a1), .val (.int (1 : Int32)), .val (.ref a2), .val (.int (1 : Int32)), .val (.int (2 : Int32)), .val (.int (1 : Int32)), .val (.int c1)] []) (fun t k => XS.icmpYes X2.here hx rfl (pc0 := 20) (pc' := 26) rfl (hb hby dci2_20) rfl (XT.ii_le_t hc_c1) (by decide) (by decide) k) ?_
  refine own_f T2 (mkF m 27 #[.val (.ref a1), .val (.int (1 : Int32)), .val (.ref a2), .val (.int (1 : Int32)), .val (.int (2 : Int32)), .val (.int (1 : Int32)), .val (.int c1)] [(.ref a2)]) (fun t k => XS.aloadN X2.here hx rfl (hb hby dci2_26) rfl rfl k) ?_
  refine own_f T2 (mkF m 28 #[.val (.ref a1), .val (.int (1 : Int32)), .val (.ref a2), .val (.int (1 : Int32)), .val (.int (2 : Int32)), .val (.int (1 : Int32)), .val (.int c1)] [(.int (1 : Int32)), (.ref a2)]) (fun t k => XS.iloadN X2.here hx rfl (hb hby dci2_27) rfl k) ?_
  refine own_f T2 (mkF m 30 #[.val (.ref a1), .val (.int (1 : Int32)), .val (.ref a2), .val (.int (1 : Int32)), .val (.int (2 : Int32)), .val (.int (1 : Int32)), .val (.int c1)] [(.int c1), (.int (1 : Int32)), (.ref a2)]) (fun t k => XS.iload X2.here hx rfl (hb hby dci2_28) rfl k) ?_
  refine own_f T2 (mkF m 31 #[.val (.ref a1), .val (.int (1 : Int32)), .val (.ref a2), .val (.int (1 : Int32)), .val (.int (2 : Int32)), .val (.int (1 : Int32)), .val (.int c1)] [(.int (c1.toInt8.toInt32)), (.int (1 : Int32)), (.ref a2)]) (fun t k => XS.i2b X2.here hx rfl (hb hby dci2_30) rfl k) ?_
  obtain ⟨cl6, Ar6, q16, Sz6, q36, Hs6, Gs6⟩ := id F_4
  obtain ⟨T6, h6, X6, e6, W6, st6⟩ := stB X2 hx hZ e2 Ar6 (j := (1 : Int32)) (inb_of Sz6 ⟨by decide, by decide⟩) (g := (mkF m 31 #[.val (.ref a1), .val (.int (1 : Int32)), .val (.ref a2), .val (.int (1 : Int32)), .val (.int (2 : Int32)), .val (.int (1 : Int32)), .val (.int c1)] [(.int (c1.toInt8.toInt32)), (.int (1 : Int32)), (.ref a2)])) rfl rfl (hb hby dci2_31)
  have N6 := Fr.snoc X6 N2 ge_a2
  have Zs6 : n0 ≤ h6.size := by rw [W6.size]; exact Zs2
  have K6 : Keep h0 h6 [a2] := K2.wr W6 (Or.inl (by simp))
  have F_7 := F_3.other W6 hne
  have F_8 : Arv Z h6 a2 k2 .byte (2 : Int32) [.int (c0.toInt8.toInt32), .int (c1.toInt8.toInt32)] (.int 0) := Arv.set Ar6 q16 Sz6 q36 Hs6 Gs6 (by rw [← ((own_narB _) : nar .byte (c1.toInt8.toInt32) = (c1.toInt8.toInt32))]; exact own_fitB _) (by rw [((own_narB _) : nar .byte (c1.toInt8.toInt32) = (c1.toInt8.toInt32))] at W6; exact W6) 1 (by decide) (by simp)
  refine own_f T6 (mkF m 32 #[.val (.ref a1), .val (.int (1 : Int32)), .val (.ref a2), .val (.int (1 : Int32)), .val (.int (2 : Int32)), .val (.int (1 : Int32)), .val (.int c1)] []) st6 ?_
  refine own_f T6 (mkF m 35 #[.val (.ref a1), .val (.int ((1 : Int32) + (1 : Int32))), .val (.ref a2), .val (.int (1 : Int32)), .val (.int (2 : Int32)), .val (.int (1 : Int32)), .val (.int c1)] []) (fun t k => XT.iincV X6.here hx rfl (l' := #[.val (.ref a1), .val (.int ((1 : Int32) + (1 : Int32))), .val (.ref a2), .val (.int (1 : Int32)), .val (.int (2 : Int32)), .val (.int (1 : Int32)), .val (.int c1)]) (1 : Int32) (hb hby dci2_32) (by decide) rfl rfl k) ?_
  rw [show ((1 : Int32) + (1 : Int32)) = (2 : Int32) from by decide]
  refine own_f T6 (mkF m 38 #[.val (.ref a1), .val (.int (2 : Int32)), .val (.ref a2), .val (.int ((1 : Int32) + (1 : Int32))), .val (.int (2 : Int32)), .val (.int (1 : Int32)), .val (.int c1)] []) (fun t k => XT.iincV X6.here hx rfl (l' := #[.val (.ref a1), .val (.int (2 : Int32)), .val (.ref a2), .val (.int ((1 : Int32) + (1 : Int32))), .val (.int (2 : Int32)), .val (.int (1 : Int32)), .val (.int c1)]) (1 : Int32) (hb hby dci2_35) (by decide) rfl rfl k) ?_
  rw [show ((1 : Int32) + (1 : Int32)) = (2 : Int32) from by decide]
  refine own_f T6 (mkF m 41 #[.val (.ref a1), .val (.int (2 : Int32)), .val (.ref a2), .val (.int (2 : Int32)), .val (.int (2 : Int32)), .val (.int ((1 : Int32) + (1 : Int32))), .val (.int c1)] []) (fun t k => XT.iincV X6.here hx rfl (l' := #[.val (.ref a1), .val (.int (2 : Int32)), .val (.ref a2), .val (.int (2 : Int32)), .val (.int (2 : Int32)), .val (.int ((1 : Int32) + (1 : Int32))), .val (.int c1)]) (1 : Int32) (hb hby dci2_38) (by decide) rfl rfl k) ?_
  rw [show ((1 : Int32) + (1 : Int32)) = (2 : Int32) from by decide]
  refine own_f T6 (mkF m 3 #[.val (.ref a1), .val (.int (2 : Int32)), .val (.ref a2), .val (.int (2 : Int32)), .val (.int (2 : Int32)), .val (.int (2 : Int32)), .val (.int c1)] []) (fun t k => XS.goto X6.here hx rfl (pc0 := 41) (pc' := 3) rfl (hb hby dci2_41) (by decide) (by decide) k) ?_
  refine own_f T6 (mkF m 5 #[.val (.ref a1), .val (.int (2 : Int32)), .val (.ref a2), .val (.int (2 : Int32)), .val (.int (2 : Int32)), .val (.int (2 : Int32)), .val (.int c1)] [(.int (2 : Int32))]) (fun t k => XS.iload X6.here hx rfl (hb hby dci2_3) rfl k) ?_
  refine own_f T6 (mkF m 7 #[.val (.ref a1), .val (.int (2 : Int32)), .val (.ref a2), .val (.int (2 : Int32)), .val (.int (2 : Int32)), .val (.int (2 : Int32)), .val (.int c1)] [(.int (2 : Int32)), (.int (2 : Int32))]) (fun t k => XS.iload X6.here hx rfl (hb hby dci2_5) rfl k) ?_
  refine own_f T6 (mkF m 44 #[.val (.ref a1), .val (.int (2 : Int32)), .val (.ref a2), .val (.int (2 : Int32)), .val (.int (2 : Int32)), .val (.int (2 : Int32)), .val (.int c1)] []) (fun t k => XS.icmpYes X6.here hx rfl (pc0 := 7) (pc' := 44) rfl (hb hby dci2_7) rfl (XT.ii_ge_t (by decide)) (by decide) (by decide) k) ?_
  refine own_f T6 (mkF m 46 #[.val (.ref a1), .val (.int (2 : Int32)), .val (.ref a2), .val (.int (2 : Int32)), .val (.int (2 : Int32)), .val (.int (2 : Int32)), .val (.int c1)] [(.int (2 : Int32))]) (fun t k => XS.iload X6.here hx rfl (hb hby dci2_44) rfl k) ?_
  obtain ⟨fs, hr, hrun, hended, hW, hsame⟩ := X6.leave (v := some (.int (2 : Int32))) (fun h => by rw [Bd.returns] at h; cases h)
  refine ⟨_, _, retI X6 hx Bd.returns (hb hby dci2_46) hr, hrun, hended, _, _, rfl, ?_, ⟨_, rfl⟩, hW, hsame.mono (by decide) (by decide)⟩
  show Qci2 Z a1 a2 k1 k2 c0 c1 h0 n0 _ T6.heap _
  rw [e6]
  exact ⟨rfl, N6, K6, F_8⟩
theorem dcb2_0 : decode jdk_52_method_16_code 0 = .ok (.iload_n 2, 1) := by decide +kernel
theorem dcb2_1 : decode jdk_52_method_16_code 1 = .ok (.newarray .byte, 2) := by decide +kernel
theorem dcb2_3 : decode jdk_52_method_16_code 3 = .ok (.astore_n 3, 1) := by decide +kernel
theorem dcb2_4 : decode jdk_52_method_16_code 4 = .ok (.aload_n 0, 1) := by decide +kernel
theorem dcb2_5 : decode jdk_52_method_16_code 5 = .ok (.iload_n 1, 1) := by decide +kernel
theorem dcb2_6 : decode jdk_52_method_16_code 6 = .ok (.aload_n 3, 1) := by decide +kernel
theorem dcb2_7 : decode jdk_52_method_16_code 7 = .ok (.iconst 0, 1) := by decide +kernel
theorem dcb2_8 : decode jdk_52_method_16_code 8 = .ok (.iload_n 2, 1) := by decide +kernel
theorem dcb2_9 : decode jdk_52_method_16_code 9 = .ok (.invokestatic 115, 3) := by decide +kernel
theorem dcb2_12 : decode jdk_52_method_16_code 12 = .ok (.istore 4, 2) := by decide +kernel
theorem dcb2_14 : decode jdk_52_method_16_code 14 = .ok (.iload 4, 2) := by decide +kernel
theorem dcb2_16 : decode jdk_52_method_16_code 16 = .ok (.iload_n 2, 1) := by decide +kernel
theorem dcb2_17 : decode jdk_52_method_16_code 17 = .ok (.if_icmp .eq 40, 3) := by decide +kernel
theorem dcb2_57 : decode jdk_52_method_16_code 57 = .ok (.aload_n 3, 1) := by decide +kernel
theorem dcb2_58 : decode jdk_52_method_16_code 58 = .ok (.areturn, 1) := by decide +kernel
theorem pn_cb2 : plainName "java/lang/StringUTF16" = true := by first | (simp [plainName, overriddenIn]; done) | decide +kernel
theorem ef_cb2 (m : MethodId) (x0 : Addr) (x1 : Int32) (x2 : Int32) : entryFrame m #[(.ref x0), (.int x1), (.int x2)] 6 = mkF m 0 #[.val (.ref x0), .val (.int x1), .val (.int x2), .unset, .unset, .unset] [] := by first | (simp [entryFrame, mkF, argsToLocals, Value.category]; done) | rfl
def Qcb2 (Z : State) (a1 : Addr) (k1 : ClassId) (c0 : Int32) (c1 : Int32) (h0 : Heap) (n0 : Nat) (v : Option Value) (h : Heap) (L : List Loc) : Prop := ∃ (b : Addr) (kb : ClassId), v = some (.ref b) ∧ Fr n0 L ∧ Keep h0 h [] ∧ Arv Z h b kb .byte (2 : Int32) [.int (c0.toInt8.toInt32), .int (c1.toInt8.toInt32)] (.int 0) ∧ h0.size ≤ b
set_option maxRecDepth 65536 in
set_option maxHeartbeats 40000000 in
theorem rmcb2 (l : Launch) (Z : State) (a0 : Array Value) (hw : ∀ d ∈ tables_1, d.before a0 Z = true) (ws : List Jvm.Cond) (a1 : Addr) (k1 : ClassId) (c0 : Int32) (c1 : Int32) (h0 : Heap) (n0 : Nat) (Z0 : n0 ≤ h0.size) (F0 : Arv Z h0 a1 k1 .char (2 : Int32) [.int c0, .int c1] (.int 0)) (hc_c0 : ¬ ((255 : Int32) < c0)) (hc_c1 : ¬ ((255 : Int32) < c1)) :
    MetFree l (⟨"java/lang/StringUTF16", "compress", "([CII)[B"⟩ : MethodName) (head1 (Jvm.Cond.code (⟨"java/lang/StringUTF16", "compress", "([CII)[B"⟩ : MethodName) jdk_52_method_16_code 6 (some (.array .byte)) :: ws) ({ frames := 1, cells := 1, slots := 2, locals := 24 } : Room)) (fun a U => a = #[(.ref a1), (.int (0 : Int32)), (.int (2 : Int32))] ∧ Z.Warmed39 U.vm ∧ U.heap = h0) (fun _ _ _ _ _ => True) (fun _ U o U' => ∃ v L, o = .returned v ∧ Qcb2 Z a1 k1 c0 c1 h0 n0 v U'.heap L ∧ FrameEnd U o U' L ({ frames := 1, cells := 1, slots := 2, locals := 24 } : Room).cells ({ frames := 1, cells := 1, slots := 2, locals := 24 } : Room).slots) := by
  refine MetFree.of_bodySF (plainFor_of_name pn_cb2) hisR ?_
  intro p e s m args below meth c s₁ Bd hml0 hP hK
  obtain ⟨rfl, hZ, hh⟩ := hP
  have hx := Bd.exec
  have hby := Bd.bytes
  have hml : c.maxLocals = 6 := hml0
  have hown : s.vm.findClass "java/lang/StringUTF16" = some m.cls := findClass_of_methodNamed Bd.named
  have hnm := (name_of_methodNamed Bd.named Bd.method).1
  have X0 : Stand p l e ({ frames := 1, cells := 1, slots := 2, locals := 24 } : Room) s m #[(.ref a1), (.int (0 : Int32)), (.int (2 : Int32))] below meth c s₁ [] 0 0 := Stand.of_body Bd
  have e0 : s₁.heap = h0 := by rw [← hh, Bd.state]; rfl
  have N0 := Fr.nil n0
  show own_R p.tables e below (own_P s (Qcb2 Z a1 k1 c0 c1 h0 n0) ({ frames := 1, cells := 1, slots := 2, locals := 24 } : Room).cells ({ frames := 1, cells := 1, slots := 2, locals := 24 } : Room).slots) (s₁.setTop (entryFrame m #[(.ref a1), (.int (0 : Int32)), (.int (2 : Int32))] 6))
  refine own_f s₁ (mkF m 0 #[.val (.ref a1), .val (.int (0 : Int32)), .val (.int (2 : Int32)), .unset, .unset, .unset] []) (fun t k => castTop (ef_cb2 m a1 (0 : Int32) (2 : Int32)) k) ?_
  refine own_f s₁ (mkF m 1 #[.val (.ref a1), .val (.int (0 : Int32)), .val (.int (2 : Int32)), .unset, .unset, .unset] [(.int (2 : Int32))]) (fun t k => XS.iloadN X0.here hx rfl (hb hby dcb2_0) rfl k) ?_
  obtain ⟨T1, h1, kA1, X1, e1, E1, A1, st1⟩ := newP X0 hx hZ (own_w hw 23 rfl) e0 (g := (mkF m 1 #[.val (.ref a1), .val (.int (0 : Int32)), .val (.int (2 : Int32)), .unset, .unset, .unset] [(.int (2 : Int32))])) rfl (hb hby dcb2_1) rfl (by decide) (cap := 2) (by decide) (by decide) (by decide) (by decide)
  obtain ⟨b1, g1⟩ : ∃ z, z = h0.size := ⟨_, rfl⟩
  rw [← g1] at A1 st1
  have ne1_a1 : a1 ≠ b1 := by rw [g1]; exact Nat.ne_of_lt F0.lt
  have ge1 : n0 ≤ b1 := by rw [g1]; exact Z0
  have gf1 : h0.size ≤ b1 := by rw [g1]; exact (Keep.refl h0 []).1
  have Zs1 : n0 ≤ h1.size := Nat.le_trans Z0 E1.1
  have F_2 := F0.ext E1
  have K1 : Keep h0 h1 [] := (Keep.refl h0 []).ext E1
  have F_3 : Arv Z h1 b1 kA1 .byte (2 : Int32) [.int 0, .int 0] (.int 0) := own_arvnew 2 A1 (by decide)
  refine own_f T1 (mkF m 3 #[.val (.ref a1), .val (.int (0 : Int32)), .val (.int (2 : Int32)), .unset, .unset, .unset] [(.ref b1)]) st1 ?_
  refine own_f T1 (mkF m 4 #[.val (.ref a1), .val (.int (0 : Int32)), .val (.int (2 : Int32)), .val (.ref b1), .unset, .unset] []) (fun t k => XS.astoreN X1.here hx rfl (hb hby dcb2_3) rfl rfl (l' := #[.val (.ref a1), .val (.int (0 : Int32)), .val (.int (2 : Int32)), .val (.ref b1), .unset, .unset]) rfl k) ?_
  refine own_f T1 (mkF m 5 #[.val (.ref a1), .val (.int (0 : Int32)), .val (.int (2 : Int32)), .val (.ref b1), .unset, .unset] [(.ref a1)]) (fun t k => XS.aloadN X1.here hx rfl (hb hby dcb2_4) rfl rfl k) ?_
  refine own_f T1 (mkF m 6 #[.val (.ref a1), .val (.int (0 : Int32)), .val (.int (2 : Int32)), .val (.ref b1), .unset, .unset] [(.int (0 : Int32)), (.ref a1)]) (fun t k => XS.iloadN X1.here hx rfl (hb hby dcb2_5) rfl k) ?_
  refine own_f T1 (mkF m 7 #[.val (.ref a1), .val (.int (0 : Int32)), .val (.int (2 : Int32)), .val (.ref b1), .unset, .unset] [(.ref b1), (.int (0 : Int32)), (.ref a1)]) (fun t k => XS.aloadN X1.here hx rfl (hb hby dcb2_6) rfl rfl k) ?_
  refine own_f T1 (mkF m 8 #[.val (.ref a1), .val (.int (0 : Int32)), .val (.int (2 : Int32)), .val (.ref b1), .unset, .unset] [(.int (0 : Int32)), (.ref b1), (.int (0 : Int32)), (.ref a1)]) (fun t k => XT.iconstV X1.here hx rfl (0 : Int32) (hb hby dcb2_7) (by decide) k) ?_
  refine own_f T1 (mkF m 9 #[.val (.ref a1), .val (.int (0 : Int32)), .val (.int (2 : Int32)), .val (.ref b1), .unset, .unset] [(.int (2 : Int32)), (.int (0 : Int32)), (.ref b1), (.int (0 : Int32)), (.ref a1)]) (fun t k => XS.iloadN X1.here hx rfl (hb hby dcb2_8) rfl k) ?_
  obtain ⟨_, _, ⟨T4, Lq4, kq_4, nq_4⟩, -, X4, ⟨Lc4, hQ4, lq4, yq4, zq4⟩, st4⟩ := Jvm.LawKit.callS X1 hx (y := (⟨"java/lang/StringUTF16", "compress", "([CI[BII)I"⟩ : MethodName)) hown (mvT hZ (own_w hw 45 rfl)) (mvT hZ (own_w hw 46 rfl)) (mvT hZ (own_w hw 43 rfl)) (mvT hZ (own_w hw 47 rfl)) (by decide) (backOf (W := 0) (rmci2 l Z a0 hw [] a1 b1 _ _ _ _ h1 n0 Zs1 F_2 F_3 ge1 ne1_a1 hc_c0 hc_c1) hZ (own_w hw 47 rfl) (own_w hw 43 rfl) (by decide) (by decide)) (g := (mkF m 9 #[.val (.ref a1), .val (.int (0 : Int32)), .val (.int (2 : Int32)), .val (.ref b1), .unset, .unset] [(.int (2 : Int32)), (.int (0 : Int32)), (.ref b1), (.int (0 : Int32)), (.ref a1)])) rfl (by rw [hml]; rfl) (argsL := [(.ref a1), (.int (0 : Int32)), (.ref b1), (.int (0 : Int32)), (.int (2 : Int32))]) (rest := []) (lenOf pd__CI_BII_I rfl) rfl (by show 2 * 0 + _ ≤ _; exact Nat.le_of_eq rfl) (hb hby dcb2_9) (fun _ _ => ⟨rfl, e1, (by decide : 0 + 1 + 0 ≤ _), (by decide : 0 + 2 + 0 ≤ _)⟩)
  dsimp only [Pt.U, Pt.locs, Pt.cells, Pt.slots] at X4 lq4 yq4 zq4 st4 hQ4
  subst lq4 yq4 zq4
  obtain ⟨h4, e4⟩ : ∃ z, T4.heap = z := ⟨_, rfl⟩
  rw [e4] at hQ4
  unfold Qci2 at hQ4
  obtain ⟨rfl, Nq4, qh4, G4_0⟩ := hQ4
  have N4 := Fr.app N0 Nq4
  have Zs4 : n0 ≤ h4.size := Nat.le_trans Zs1 qh4.1
  have F_5 := F_2.keep qh4 (ninS ne1_a1 nin0)
  have K4 : Keep h0 h4 [] := K1.trans qh4 (allS (Or.inr gf1) all0)
  refine own_f T4 (mkF m 12 #[.val (.ref a1), .val (.int (0 : Int32)), .val (.int (2 : Int32)), .val (.ref b1), .unset, .unset] [(.int (2 : Int32))]) st4 ?_
  refine own_f T4 (mkF m 14 #[.val (.ref a1), .val (.int (0 : Int32)), .val (.int (2 : Int32)), .val (.ref b1), .val (.int (2 : Int32)), .unset] []) (fun t k => XS.istore X4.here hx rfl (hb hby dcb2_12) rfl (l' := #[.val (.ref a1), .val (.int (0 : Int32)), .val (.int (2 : Int32)), .val (.ref b1), .val (.int (2 : Int32)), .unset]) rfl k) ?_
  refine own_f T4 (mkF m 16 #[.val (.ref a1), .val (.int (0 : Int32)), .val (.int (2 : Int32)), .val (.ref b1), .val (.int (2 : Int32)), .unset] [(.int (2 : Int32))]) (fun t k => XS.iload X4.here hx rfl (hb hby dcb2_14) rfl k) ?_
  refine own_f T4 (mkF m 17 #[.val (.ref a1), .val (.int (0 : Int32)), .val (.int (2 : Int32)), .val (.ref b1), .val (.int (2 : Int32)), .unset] [(.int (2 : Int32)), (.int (2 : Int32))]) (fun t k => XS.iloadN X4.here hx rfl (hb hby dcb2_16) rfl k) ?_
  refine own_f T4 (mkF m 57 #[.val (.ref a1), .val (.int (0 : Int32)), .val (.int (2 : Int32)), .val (.ref b1), .val (.int (2 : Int32)), .unset] []) (fun t k => XS.icmpYes X4.here hx rfl (pc0 := 17) (pc' := 57) rfl (hb hby dcb2_17) rfl (XT.ii_eq_t (by decide)) (by decide) (by decide) k) ?_
  refine own_f T4 (mkF m 58 #[.val (.ref a1), .val (.int (0 : Int32)), .val (.int (2 : Int32)), .val (.ref b1), .val (.int (2 : Int32)), .unset] [(.ref b1)]) (fun t k => XS.aloadN X4.here hx rfl (hb hby dcb2_57) rfl rfl k) ?_
  obtain ⟨fs, hr, hrun, hended, hW, hsame⟩ := X4.leave (v := some (.ref b1)) (fun h => by rw [Bd.returns] at h; cases h)
  refine ⟨_, _, retOut X4 hx Bd.returns (by rfl) (Or.inr (Or.inr (Or.inr (Or.inr ⟨rfl, rfl, rfl⟩)))) (hb hby dcb2_58) hr, hrun, hended, _, _, rfl, ?_, ⟨_, rfl⟩, hW, hsame.mono (by decide) (by decide)⟩
  show Qcb2 Z a1 k1 c0 c1 h0 n0 _ T4.heap _
  rw [e4]
  exact ⟨b1, kA1, rfl, N4, K4, G4_0, gf1⟩
theorem dco2_2_0 : decode jdk_52_method_15_code 0 = .ok (.iload_n 1, 1) := by decide +kernel
theorem dco2_2_1 : decode jdk_52_method_15_code 1 = .ok (.aload_n 0, 1) := by decide +kernel
theorem dco2_2_2 : decode jdk_52_method_15_code 2 = .ok (.arraylength, 1) := by decide +kernel
theorem dco2_2_3 : decode jdk_52_method_15_code 3 = .ok (.isub, 1) := by decide +kernel
theorem dco2_2_4 : decode jdk_52_method_15_code 4 = .ok (.bipush 31, 2) := by decide +kernel
theorem dco2_2_6 : decode jdk_52_method_15_code 6 = .ok (.iushr, 1) := by decide +kernel
theorem dco2_2_7 : decode jdk_52_method_15_code 7 = .ok (.i2b, 1) := by decide +kernel
theorem dco2_2_8 : decode jdk_52_method_15_code 8 = .ok (.ireturn, 1) := by decide +kernel
theorem pn_co2_2 : plainName "java/lang/StringUTF16" = true := by first | (simp [plainName, overriddenIn]; done) | decide +kernel
theorem ef_co2_2 (m : MethodId) (x0 : Addr) (x1 : Int32) : entryFrame m #[(.ref x0), (.int x1)] 2 = mkF m 0 #[.val (.ref x0), .val (.int x1)] [] := by first | (simp [entryFrame, mkF, argsToLocals, Value.category]; done) | rfl
def Qco2_2 (Z : State) (a1 : Addr) (k1 : ClassId) (vv : List Value) (h0 : Heap) (n0 : Nat) (v : Option Value) (h : Heap) (L : List Loc) : Prop := v = some (.int (0 : Int32)) ∧ Fr n0 L ∧ h = h0
set_option maxRecDepth 65536 in
set_option maxHeartbeats 40000000 in
theorem rmco2_2 (l : Launch) (Z : State) (a0 : Array Value) (hw : ∀ d ∈ tables_1, d.before a0 Z = true) (ws : List Jvm.Cond) (a1 : Addr) (k1 : ClassId) (vv : List Value) (h0 : Heap) (n0 : Nat) (Z0 : n0 ≤ h0.size) (F0 : Arv Z h0 a1 k1 .byte (2 : Int32) vv (.int 0)) :
    MetFree l (⟨"java/lang/StringUTF16", "coderFromArrayLen", "([BI)B"⟩ : MethodName) (head1 (Jvm.Cond.code (⟨"java/lang/StringUTF16", "coderFromArrayLen", "([BI)B"⟩ : MethodName) jdk_52_method_15_code 2 (some .byte) :: ws) ({ frames := 0, cells := 0, slots := 0, locals := 0 } : Room)) (fun a U => a = #[(.ref a1), (.int (2 : Int32))] ∧ Z.Warmed39 U.vm ∧ U.heap = h0) (fun _ _ _ _ _ => True) (fun _ U o U' => ∃ v L, o = .returned v ∧ Qco2_2 Z a1 k1 vv h0 n0 v U'.heap L ∧ FrameEnd U o U' L ({ frames := 0, cells := 0, slots := 0, locals := 0 } : Room).cells ({ frames := 0, cells := 0, slots := 0, locals := 0 } : Room).slots) := by
  refine MetFree.of_bodySF (plainFor_of_name pn_co2_2) hisR ?_
  intro p e s m args below meth c s₁ Bd hml0 hP hK
  obtain ⟨rfl, hZ, hh⟩ := hP
  have hx := Bd.exec
  have hby := Bd.bytes
  have hml : c.maxLocals = 2 := hml0
  have hown : s.vm.findClass "java/lang/StringUTF16" = some m.cls := findClass_of_methodNamed Bd.named
  have hnm := (name_of_methodNamed Bd.named Bd.method).1
  have X0 : Stand p l e ({ frames := 0, cells := 0, slots := 0, locals := 0 } : Room) s m #[(.ref a1), (.int (2 : Int32))] below meth c s₁ [] 0 0 := Stand.of_body Bd
  have e0 : s₁.heap = h0 := by rw [← hh, Bd.state]; rfl
  have N0 := Fr.nil n0
  show own_R p.tables e below (own_P s (Qco2_2 Z a1 k1 vv h0 n0) ({ frames := 0, cells := 0, slots := 0, locals := 0 } : Room).cells ({ frames := 0, cells := 0, slots := 0, locals := 0 } : Room).slots) (s₁.setTop (entryFrame m #[(.ref a1), (.int (2 : Int32))] 2))
  refine own_f s₁ (mkF m 0 #[.val (.ref a1), .val (.int (2 : Int32))] []) (fun t k => castTop (ef_co2_2 m a1 (2 : Int32)) k) ?_
  refine own_f s₁ (mkF m 1 #[.val (.ref a1), .val (.int (2 : Int32))] [(.int (2 : Int32))]) (fun t k => XS.iloadN X0.here hx rfl (hb hby dco2_2_0) rfl k) ?_
  refine own_f s₁ (mkF m 2 #[.val (.ref a1), .val (.int (2 : Int32))] [(.ref a1), (.int (2 : Int32))]) (fun t k => XS.aloadN X0.here hx rfl (hb hby dco2_2_1) rfl rfl k) ?_
  refine own_f s₁ (mkF m 3 #[.val (.ref a1), .val (.int (2 : Int32))] [(.int (2 : Int32)), (.int (2 : Int32))]) (fun t k => own_len X0 hx hZ e0 F0 (g := (mkF m 2 #[.val (.ref a1), .val (.int (2 : Int32))] [(.ref a1), (.int (2 : Int32))])) rfl rfl (hb hby dco2_2_2) k) ?_
  refine own_f s₁ (mkF m 4 #[.val (.ref a1), .val (.int (2 : Int32))] [(.int ((2 : Int32) - (2 : Int32)))]) (fun t k => XS.isub X0.here hx rfl (hb hby dco2_2_3) rfl k) ?_
  rw [show ((2 : Int32) - (2 : Int32)) = (0 : Int32) from by decide]
  refine own_f s₁ (mkF m 6 #[.val (.ref a1), .val (.int (2 : Int32))] [(.int (31 : Int32)), (.int (0 : Int32))]) (fun t k => XT.bipushV X0.here hx rfl (31 : Int32) (hb hby dco2_2_4) (by decide) k) ?_
  refine own_f s₁ (mkF m 7 #[.val (.ref a1), .val (.int (2 : Int32))] [(.int (((0 : Int32).toUInt32 >>> ((31 : Int32) &&& 31).toUInt32).toInt32))]) (fun t k => XS.iushr X0.here hx rfl (hb hby dco2_2_6) rfl k) ?_
  rw [show (((0 : Int32).toUInt32 >>> ((31 : Int32) &&& 31).toUInt32).toInt32) = (0 : Int32) from by decide]
  refine own_f s₁ (mkF m 8 #[.val (.ref a1), .val (.int (2 : Int32))] [(.int ((0 : Int32).toInt8.toInt32))]) (fun t k => XS.i2b X0.here hx rfl (hb hby dco2_2_7) rfl k) ?_
  rw [show ((0 : Int32).toInt8.toInt32) = (0 : Int32) from by decide]
  obtain ⟨fs, hr, hrun, hended, hW, hsame⟩ := X0.leave (v := some (.int (0 : Int32))) (fun h => by rw [Bd.returns] at h; cases h)
  refine ⟨_, _, own_retB X0 hx (t := .byte) Bd.returns (by simp) (by decide) (hb hby dco2_2_8) hr, hrun, hended, _, _, rfl, ?_, ⟨_, rfl⟩, hW, hsame.mono (by decide) (by decide)⟩
  show Qco2_2 Z a1 k1 vv h0 n0 _ s₁.heap _
  rw [e0]
  exact ⟨rfl, N0, rfl⟩
theorem ds42_0 : decode jdk_42_method_149_code 0 = .ok (.aload_n 0, 1) := by decide +kernel
theorem ds42_1 : decode jdk_42_method_149_code 1 = .ok (.invokespecial 1, 3) := by decide +kernel
theorem ds42_4 : decode jdk_42_method_149_code 4 = .ok (.iload_n 3, 1) := by decide +kernel
theorem ds42_5 : decode jdk_42_method_149_code 5 = .ok (.ifCond .ne 22, 3) := by decide +kernel
theorem ds42_27 : decode jdk_42_method_149_code 27 = .ok (.getstatic 38, 3) := by decide +kernel
theorem ds42_30 : decode jdk_42_method_149_code 30 = .ok (.ifCond .eq 28, 3) := by decide +kernel
theorem ds42_33 : decode jdk_42_method_149_code 33 = .ok (.aload_n 1, 1) := by decide +kernel
theorem ds42_34 : decode jdk_42_method_149_code 34 = .ok (.iload_n 2, 1) := by decide +kernel
theorem ds42_35 : decode jdk_42_method_149_code 35 = .ok (.iload_n 3, 1) := by decide +kernel
theorem ds42_36 : decode jdk_42_method_149_code 36 = .ok (.invokestatic 177, 3) := by decide +kernel
theorem ds42_39 : decode jdk_42_method_149_code 39 = .ok (.astore 5, 2) := by decide +kernel
theorem ds42_41 : decode jdk_42_method_149_code 41 = .ok (.aload_n 0, 1) := by decide +kernel
theorem ds42_42 : decode jdk_42_method_149_code 42 = .ok (.aload 5, 2) := by decide +kernel
theorem ds42_44 : decode jdk_42_method_149_code 44 = .ok (.iload_n 3, 1) := by decide +kernel
theorem ds42_45 : decode jdk_42_method_149_code 45 = .ok (.invokestatic 47, 3) := by decide +kernel
theorem ds42_48 : decode jdk_42_method_149_code 48 = .ok (.putfield 15, 3) := by decide +kernel
theorem ds42_51 : decode jdk_42_method_149_code 51 = .ok (.aload_n 0, 1) := by decide +kernel
theorem ds42_52 : decode jdk_42_method_149_code 52 = .ok (.aload 5, 2) := by decide +kernel
theorem ds42_54 : decode jdk_42_method_149_code 54 = .ok (.putfield 9, 3) := by decide +kernel
theorem ds42_57 : decode jdk_42_method_149_code 57 = .ok (.return_, 1) := by decide +kernel
theorem pn_s42 : plainName "java/lang/String" = true := by first | (simp [plainName, overriddenIn]; done) | decide +kernel
theorem ef_s42 (m : MethodId) (x0 : Addr) (x1 : Addr) (x2 : Int32) (x3 : Int32) : entryFrame m #[(.ref x0), (.ref x1), (.int x2), (.int x3), .null] 6 = mkF m 0 #[.val (.ref x0), .val (.ref x1), .val (.int x2), .val (.int x3), .val .null, .unset] [] := by first | (simp [entryFrame, mkF, argsToLocals, Value.category]; done) | rfl
def Qs42 (Z : State) (a1 : Addr) (a2 : Addr) (k2 : ClassId) (c0 : Int32) (c1 : Int32) (u0 : Value) (u1 : Value) (wc : Int32) (h0 : Heap) (n0 : Nat) (v : Option Value) (h : Heap) (L : List Loc) : Prop := ∃ (b : Addr) (kb : ClassId), v = none ∧ Fr n0 L ∧ Keep h0 h [a1] ∧ Exa Z h a1 "java/lang/String" ∧ Fld Z h a1 "java/lang/String" "coder" "B" (.int (0 : Int32)) ∧ Fld Z h a1 "java/lang/String" "value" "[B" (.ref b) ∧ Arv Z h b kb .byte (2 : Int32) [.int (c0.toInt8.toInt32), .int (c1.toInt8.toInt32)] (.int 0) ∧ h0.size ≤ b
set_option maxRecDepth 65536 in
set_option maxHeartbeats 40000000 in
theorem rms42 (l : Launch) (Z : State) (a0 : Array Value) (hw : ∀ d ∈ tables_1, d.before a0 Z = true) (ws : List Jvm.Cond) (a1 : Addr) (a2 : Addr) (k2 : ClassId) (c0 : Int32) (c1 : Int32) (u0 : Value) (u1 : Value) (wc : Int32) (h0 : Heap) (n0 : Nat) (Z0 : n0 ≤ h0.size) (F0 : Old Z n0 h0) (F1 : Exa Z h0 a1 "java/lang/String") (F2 : Fld Z h0 a1 "java/lang/String" "value" "[B" u0) (F3 : Fld Z h0 a1 "java/lang/String" "coder" "B" u1) (F4 : Arv Z h0 a2 k2 .char (2 : Int32) [.int c0, .int c1] (.int 0)) (ge_a1 : n0 ≤ a1) (SC : Sta Z Z.heap "java/lang/String" "COMPACT_STRINGS" "Z" (.int wc)) (HWC : ¬ (wc = 0)) (hne : a2 ≠ a1) (hc_c0 : ¬ ((255 : Int32) < c0)) (hc_c1 : ¬ ((255 : Int32) < c1)) :
    MetFree l (⟨"java/lang/String", "<init>", "([CIILjava/lang/Void;)V"⟩ : MethodName) (head1 (Jvm.Cond.code (⟨"java/lang/String", "<init>", "([CIILjava/lang/Void;)V"⟩ : MethodName) jdk_42_method_149_code 6 none :: ws) ({ frames := 2, cells := 1, slots := 2, locals := 41 } : Room)) (fun a U => a = #[(.ref a1), (.ref a2), (.int (0 : Int32)), (.int (2 : Int32)), .null] ∧ Z.Warmed39 U.vm ∧ U.heap = h0) (fun _ _ _ _ _ => True) (fun _ U o U' => ∃ v L, o = .returned v ∧ Qs42 Z a1 a2 k2 c0 c1 u0 u1 wc h0 n0 v U'.heap L ∧ FrameEnd U o U' L ({ frames := 2, cells := 1, slots := 2, locals := 41 } : Room).cells ({ frames := 2, cells := 1, slots := 2, locals := 41 } : Room).slots) := by
  refine MetFree.of_bodySF (plainFor_of_name pn_s42) hisR ?_
  intro p e s m args below meth c s₁ Bd hml0 hP hK
  obtain ⟨rfl, hZ, hh⟩ := hP
  have hx := Bd.exec
  have hby := Bd.bytes
  have hml : c.maxLocals = 6 := hml0
  have hown : s.vm.findClass "java/lang/String" = some m.cls := findClass_of_methodNamed Bd.named
  have hnm := (name_of_methodNamed Bd.named Bd.method).1
  have X0 : Stand p l e ({ frames := 2, cells := 1, slots := 2, locals := 41 } : Room) s m #[(.ref a1), (.ref a2), (.int (0 : Int32)), (.int (2 : Int32)), .null] below meth c s₁ [] 0 0 := Stand.of_body Bd
  have e0 : s₁.heap = h0 := by rw [← hh, Bd.state]; rfl
  have N0 := Fr.nil n0
  show own_R p.tables e below (own_P s (Qs42 Z a1 a2 k2 c0 c1 u0 u1 wc h0 n0) ({ frames := 2, cells := 1, slots := 2, locals := 41 } : Room).cells ({ frames := 2, cells := 1, slots := 2, locals := 41 } : Room).slots) (s₁.setTop (entryFrame m #[(.ref a1), (.ref a2), (.int (0 : Int32)), (.int (2 : Int32)), .null] 6))
  refine own_f s₁ (mkF m 0 #[.val (.ref a1), .val (.ref a2), .val (.int (0 : Int32)), .val (.int (2 : Int32)), .val .null, .unset] []) (fun t k => castTop (ef_s42 m a1 a2 (0 : Int32) (2 : Int32)) k) ?_
  refine own_f s₁ (mkF m 1 #[.val (.ref a1), .val (.ref a2), .val (.int (0 : Int32)), .val (.int (2 : Int32)), .val .null, .unset] [(.ref a1)]) (fun t k => XS.aloadN X0.here hx rfl (hb hby ds42_0) rfl rfl k) ?_
  obtain ⟨T1, X1, e1, st1⟩ := initO X0 hx hZ hown (own_w hw 19 rfl) (own_w hw 20 rfl) (own_w hw 21 rfl) e0 (g := (mkF m 1 #[.val (.ref a1), .val (.ref a2), .val (.int (0 : Int32)), .val (.int (2 : Int32)), .val .null, .unset] [(.ref a1)])) rfl (by rw [hml]; rfl) rfl (hb hby ds42_1) (by decide) (W := 0) (by show 2 * 0 + _ ≤ _; exact Nat.le_of_eq rfl) (by decide)
  refine own_f T1 (mkF m 4 #[.val (.ref a1), .val (.ref a2), .val (.int (0 : Int32)), .val (.int (2 : Int32)), .val .null, .unset] []) st1 ?_
  refine own_f T1 (mkF m 5 #[.val (.ref a1), .val (.ref a2), .val (.int (0 : Int32)), .val (.int (2 : Int32)), .val .null, .unset] [(.int (2 : Int32))]) (fun t k => XS.iloadN X1.here hx rfl (hb hby ds42_4) rfl k) ?_
  refine own_f T1 (mkF m 27 #[.val (.ref a1), .val (.ref a2), .val (.int (0 : Int32)), .val (.int (2 : Int32)), .val .null, .unset] []) (fun t k => XS.ifYes X1.here hx rfl (pc0 := 5) (pc' := 27) rfl (hb hby ds42_5) rfl (XT.i0_ne_t (by decide)) (by decide) (by decide) k) ?_
  have S2 : Sta Z h0 "java/lang/String" "COMPACT_STRINGS" "Z" (.int wc) := SC.ext F0.2
  obtain ⟨T2, X2, e2, st2⟩ := getS X1 hx hZ (host := "") hown (own_w hw 36 rfl) Via.refl e1 S2 (g := (mkF m 27 #[.val (.ref a1), .val (.ref a2), .val (.int (0 : Int32)), .val (.int (2 : Int32)), .val .null, .unset] [])) rfl (hb hby ds42_27)
  refine own_f T2 (mkF m 30 #[.val (.ref a1), .val (.ref a2), .val (.int (0 : Int32)), .val (.int (2 : Int32)), .val .null, .unset] [(.int wc)]) st2 ?_
  refine own_f T2 (mkF m 33 #[.val (.ref a1), .val (.ref a2), .val (.int (0 : Int32)), .val (.int (2 : Int32)), .val .null, .unset] []) (fun t k => XS.ifNo X2.here hx rfl (hb hby ds42_30) rfl (XT.i0_eq_f HWC) k) ?_
  refine own_f T2 (mkF m 34 #[.val (.ref a1), .val (.ref a2), .val (.int (0 : Int32)), .val (.int (2 : Int32)), .val .null, .unset] [(.ref a2)]) (fun t k => XS.aloadN X2.here hx rfl (hb hby ds42_33) rfl rfl k) ?_
  refine own_f T2 (mkF m 35 #[.val (.ref a1), .val (.ref a2), .val (.int (0 : Int32)), .val (.int (2 : Int32)), .val .null, .unset] [(.int (0 : Int32)), (.ref a2)]) (fun t k => XS.iloadN X2.here hx rfl (hb hby ds42_34) rfl k) ?_
  refine own_f T2 (mkF m 36 #[.val (.ref a1), .val (.ref a2), .val (.int (0 : Int32)), .val (.int (2 : Int32)), .val .null, .unset] [(.int (2 : Int32)), (.int (0 : Int32)), (.ref a2)]) (fun t k => XS.iloadN X2.here hx rfl (hb hby ds42_35) rfl k) ?_
  obtain ⟨_, _, ⟨T3, Lq3, kq_3, nq_3⟩, -, X3, ⟨Lc3, hQ3, lq3, yq3, zq3⟩, st3⟩ := Jvm.LawKit.callS X2 hx (y := (⟨"java/lang/StringUTF16", "compress", "([CII)[B"⟩ : MethodName)) hown (mvT hZ (own_w hw 41 rfl)) (mvT hZ (own_w hw 42 rfl)) (mvT hZ (own_w hw 43 rfl)) (mvT hZ (own_w hw 44 rfl)) (by decide) (backOf (W := 0) (rmcb2 l Z a0 hw [] a2 _ _ _ h0 n0 Z0 F4 hc_c0 hc_c1) hZ (own_w hw 44 rfl) (own_w hw 43 rfl) (by decide) (by decide)) (g := (mkF m 36 #[.val (.ref a1), .val (.ref a2), .val (.int (0 : Int32)), .val (.int (2 : Int32)), .val .null, .unset] [(.int (2 : Int32)), (.int (0 : Int32)), (.ref a2)])) rfl (by rw [hml]; rfl) (argsL := [(.ref a2), (.int (0 : Int32)), (.int (2 : Int32))]) (rest := []) (lenOf pd__CII_B rfl) rfl (by show 2 * 0 + _ ≤ _; exact Nat.le_of_eq rfl) (hb hby ds42_36) (fun _ _ => ⟨rfl, e2, (by decide : 0 + 1 ≤ _), (by decide : 0 + 2 ≤ _)⟩)
  dsimp only [Pt.U, Pt.locs, Pt.cells, Pt.slots] at X3 lq3 yq3 zq3 st3 hQ3
  subst lq3 yq3 zq3
  obtain ⟨h3, e3⟩ : ∃ z, T3.heap = z := ⟨_, rfl⟩
  rw [e3] at hQ3
  unfold Qcb2 at hQ3
  obtain ⟨b3, kb3, rfl, Nq3, qh3, G3_0, H3_0⟩ := hQ3
  have N3 := Fr.app N0 Nq3
  have Zs3 : n0 ≤ h3.size := Nat.le_trans Z0 qh3.1
  have F_4 := F0.keep qh3 all0
  have F_5 := F1.keep qh3
  have F_6 := F2.keep qh3 nin0
  have F_7 := F3.keep qh3 nin0
  have F_8 := F4.keep qh3 nin0
  have K3 : Keep h0 h3 [a1] := (Keep.refl h0 [a1]).trans qh3 all0
  have ne3_a1 : a1 ≠ b3 := Nat.ne_of_lt (Nat.lt_of_lt_of_le F1.lt H3_0)
  have ne3_a2 : a2 ≠ b3 := Nat.ne_of_lt (Nat.lt_of_lt_of_le F4.lt H3_0)
  have ge3 : n0 ≤ b3 := Nat.le_trans Z0 H3_0
  have gf3 : h0.size ≤ b3 := Nat.le_trans (Keep.refl h0 [a1]).1 H3_0
  refine own_f T3 (mkF m 39 #[.val (.ref a1), .val (.ref a2), .val (.int (0 : Int32)), .val (.int (2 : Int32)), .val .null, .unset] [(.ref b3)]) st3 ?_
  refine own_f T3 (mkF m 41 #[.val (.ref a1), .val (.ref a2), .val (.int (0 : Int32)), .val (.int (2 : Int32)), .val .null, .val (.ref b3)] []) (fun t k => XS.astore X3.here hx rfl (hb hby ds42_39) rfl rfl (l' := #[.val (.ref a1), .val (.ref a2), .val (.int (0 : Int32)), .val (.int (2 : Int32)), .val .null, .val (.ref b3)]) rfl k) ?_
  refine own_f T3 (mkF m 42 #[.val (.ref a1), .val (.ref a2), .val (.int (0 : Int32)), .val (.int (2 : Int32)), .val .null, .val (.ref b3)] [(.ref a1)]) (fun t k => XS.aloadN X3.here hx rfl (hb hby ds42_41) rfl rfl k) ?_
  refine own_f T3 (mkF m 44 #[.val (.ref a1), .val (.ref a2), .val (.int (0 : Int32)), .val (.int (2 : Int32)), .val .null, .val (.ref b3)] [(.ref b3), (.ref a1)]) (fun t k => XS.aload X3.here hx rfl (hb hby ds42_42) rfl rfl k) ?_
  refine own_f T3 (mkF m 45 #[.val (.ref a1), .val (.ref a2), .val (.int (0 : Int32)), .val (.int (2 : Int32)), .val .null, .val (.ref b3)] [(.int (2 : Int32)), (.ref b3), (.ref a1)]) (fun t k => XS.iloadN X3.here hx rfl (hb hby ds42_44) rfl k) ?_
  obtain ⟨_, _, ⟨T9, Lq9, kq_9, nq_9⟩, -, X9, ⟨Lc9, hQ9, lq9, yq9, zq9⟩, st9⟩ := Jvm.LawKit.callS X3 hx (y := (⟨"java/lang/StringUTF16", "coderFromArrayLen", "([BI)B"⟩ : MethodName)) hown (mvT hZ (own_w hw 48 rfl)) (mvT hZ (own_w hw 49 rfl)) (mvT hZ (own_w hw 43 rfl)) (mvT hZ (own_w hw 50 rfl)) (by decide) (backOf (W := 1) (rmco2_2 l Z a0 hw [] b3 _ _ h3 n0 Zs3 G3_0) hZ (own_w hw 50 rfl) (own_w hw 43 rfl) (by decide) (by decide)) (g := (mkF m 45 #[.val (.ref a1), .val (.ref a2), .val (.int (0 : Int32)), .val (.int (2 : Int32)), .val .null, .val (.ref b3)] [(.int (2 : Int32)), (.ref b3), (.ref a1)])) rfl (by rw [hml]; rfl) (argsL := [(.ref b3), (.int (2 : Int32))]) (rest := [(.ref a1)]) (lenOf pd__BI_B rfl) rfl (by show 2 * 0 + _ ≤ _; exact Nat.le_of_eq rfl) (hb hby ds42_45) (fun _ _ => ⟨rfl, e3, (by decide : 0 + 1 + 0 ≤ _), (by decide : 0 + 2 + 0 ≤ _)⟩)
  dsimp only [Pt.U, Pt.locs, Pt.cells, Pt.slots] at X9 lq9 yq9 zq9 st9 hQ9
  subst lq9 yq9 zq9
  obtain ⟨h9, e9⟩ : ∃ z, T9.heap = z := ⟨_, rfl⟩
  rw [e9] at hQ9
  unfold Qco2_2 at hQ9
  obtain ⟨rfl, Nq9, qh9⟩ := hQ9
  have N9 := Fr.app N3 Nq9
  rw [qh9] at e9
  refine own_f T9 (mkF m 48 #[.val (.ref a1), .val (.ref a2), .val (.int (0 : Int32)), .val (.int (2 : Int32)), .val .null, .val (.ref b3)] [(.int (0 : Int32)), (.ref a1)]) st9 ?_
  obtain ⟨T10, h10, X10, e10, W10, st10⟩ := putF X9 hx hZ hown (host := "") (Or.inl (own_w hw 29 rfl)) Via.refl e9 F_7 F_5 (Or.inr ⟨(own_w hw 25 rfl), rfl, hnm⟩) (own_w hw 9 rfl) (ty := .byte) (by decide) rfl rfl (g := (mkF m 48 #[.val (.ref a1), .val (.ref a2), .val (.int (0 : Int32)), .val (.int (2 : Int32)), .val .null, .val (.ref b3)] [(.int (0 : Int32)), (.ref a1)])) rfl rfl (hb hby ds42_48)
  have N10 := Fr.snoc X10 N9 ge_a1
  have Zs10 : n0 ≤ h10.size := by rw [W10.size]; exact Zs3
  have K10 : Keep h0 h10 [a1] := K3.wr W10 (Or.inl (by simp))
  have F_11 := F_4.wr W10 ge_a1
  have F_12 := F_5.wr W10
  have F_13 := F_6.other W10 (Or.inr (slot_ne (Or.inr (own_w hw 24 rfl)) (Or.inr (own_w hw 25 rfl)) (by decide) (t := (.array .byte)) (t' := .byte) (by decide) (by decide)))
  have F_14 := F_7.same W10
  have F_15 := F_8.other W10 hne
  have F_16 := G3_0.other W10 (Ne.symm ne3_a1)
  refine own_f T10 (mkF m 51 #[.val (.ref a1), .val (.ref a2), .val (.int (0 : Int32)), .val (.int (2 : Int32)), .val .null, .val (.ref b3)] []) st10 ?_
  refine own_f T10 (mkF m 52 #[.val (.ref a1), .val (.ref a2), .val (.int (0 : Int32)), .val (.int (2 : Int32)), .val .null, .val (.ref b3)] [(.ref a1)]) (fun t k => XS.aloadN X10.here hx rfl (hb hby ds42_51) rfl rfl k) ?_
  refine own_f T10 (mkF m 54 #[.val (.ref a1), .val (.ref a2), .val (.int (0 : Int32)), .val (.int (2 : Int32)), .val .null, .val (.ref b3)] [(.ref b3), (.ref a1)]) (fun t k => XS.aload X10.here hx rfl (hb hby ds42_52) rfl rfl k) ?_
  obtain ⟨T17, h17, X17, e17, W17, st17⟩ := putF X10 hx hZ hown (host := "") (Or.inl (own_w hw 28 rfl)) Via.refl e10 F_13 F_12 (Or.inr ⟨(own_w hw 24 rfl), rfl, hnm⟩) (own_w hw 9 rfl) (ty := (.array .byte)) (by decide) rfl rfl (g := (mkF m 54 #[.val (.ref a1), .val (.ref a2), .val (.int (0 : Int32)), .val (.int (2 : Int32)), .val .null, .val (.ref b3)] [(.ref b3), (.ref a1)])) rfl rfl (hb hby ds42_54)
  have N17 := Fr.snoc X17 N10 ge_a1
  have Zs17 : n0 ≤ h17.size := by rw [W17.size]; exact Zs10
  have K17 : Keep h0 h17 [a1] := K10.wr W17 (Or.inl (by simp))
  have F_18 := F_11.wr W17 ge_a1
  have F_19 := F_12.wr W17
  have F_20 := F_13.same W17
  have F_21 := F_14.other W17 (Or.inr (slot_ne (Or.inr (own_w hw 25 rfl)) (Or.inr (own_w hw 24 rfl)) (by decide) (t := .byte) (t' := (.array .byte)) (by decide) (by decide)))
  have F_22 := F_15.other W17 hne
  have F_23 := F_16.other W17 (Ne.symm ne3_a1)
  refine own_f T17 (mkF m 57 #[.val (.ref a1), .val (.ref a2), .val (.int (0 : Int32)), .val (.int (2 : Int32)), .val .null, .val (.ref b3)] []) st17 ?_
  obtain ⟨fs, hr, hrun, hended, hW, hsame⟩ := X17.leave (v := none) (fun _ => rfl)
  refine ⟨_, _, X17.returnOut hx Bd.returns (hb hby ds42_57) hr, hrun, hended, _, _, rfl, ?_, ⟨_, rfl⟩, hW, hsame.mono (by decide) (by decide)⟩
  show Qs42 Z a1 a2 k2 c0 c1 u0 u1 wc h0 n0 _ T17.heap _
  rw [e17]
  exact ⟨b3, kb3, rfl, N17, K17, F_19, F_21, F_20, F_23, gf3⟩
theorem ds22_0 : decode jdk_42_method_3_code 0 = .ok (.aload_n 0, 1) := by decide +kernel
theorem ds22_1 : decode jdk_42_method_3_code 1 = .ok (.aload_n 1, 1) := by decide +kernel
theorem ds22_2 : decode jdk_42_method_3_code 2 = .ok (.iconst 0, 1) := by decide +kernel
theorem ds22_3 : decode jdk_42_method_3_code 3 = .ok (.aload_n 1, 1) := by decide +kernel
theorem ds22_4 : decode jdk_42_method_3_code 4 = .ok (.arraylength, 1) := by decide +kernel
theorem ds22_5 : decode jdk_42_method_3_code 5 = .ok (.aconst_null, 1) := by decide +kernel
theorem ds22_6 : decode jdk_42_method_3_code 6 = .ok (.invokespecial 27, 3) := by decide +kernel
theorem ds22_9 : decode jdk_42_method_3_code 9 = .ok (.return_, 1) := by decide +kernel
theorem pn_s22 : plainName "java/lang/String" = true := by first | (simp [plainName, overriddenIn]; done) | decide +kernel
theorem ef_s22 (m : MethodId) (x0 : Addr) (x1 : Addr) : entryFrame m #[(.ref x0), (.ref x1)] 2 = mkF m 0 #[.val (.ref x0), .val (.ref x1)] [] := by first | (simp [entryFrame, mkF, argsToLocals, Value.category]; done) | rfl
def Qs22 (Z : State) (a1 : Addr) (a2 : Addr) (k2 : ClassId) (c0 : Int32) (c1 : Int32) (u0 : Value) (u1 : Value) (wc : Int32) (h0 : Heap) (n0 : Nat) (v : Option Value) (h : Heap) (L : List Loc) : Prop := ∃ (b : Addr) (kb : ClassId), v = none ∧ Fr n0 L ∧ Keep h0 h [a1] ∧ Exa Z h a1 "java/lang/String" ∧ Fld Z h a1 "java/lang/String" "coder" "B" (.int (0 : Int32)) ∧ Fld Z h a1 "java/lang/String" "value" "[B" (.ref b) ∧ Arv Z h b kb .byte (2 : Int32) [.int (c0.toInt8.toInt32), .int (c1.toInt8.toInt32)] (.int 0) ∧ h0.size ≤ b
set_option maxRecDepth 65536 in
set_option maxHeartbeats 40000000 in
theorem rms22 (l : Launch) (Z : State) (a0 : Array Value) (hw : ∀ d ∈ tables_1, d.before a0 Z = true) (ws : List Jvm.Cond) (a1 : Addr) (a2 : Addr) (k2 : ClassId) (c0 : Int32) (c1 : Int32) (u0 : Value) (u1 : Value) (wc : Int32) (h0 : Heap) (n0 : Nat) (Z0 : n0 ≤ h0.size) (F0 : Old Z n0 h0) (F1 : Exa Z h0 a1 "java/lang/String") (F2 : Fld Z h0 a1 "java/lang/String" "value" "[B" u0) (F3 : Fld Z h0 a1 "java/lang/String" "coder" "B" u1) (F4 : Arv Z h0 a2 k2 .char (2 : Int32) [.int c0, .int c1] (.int 0)) (ge_a1 : n0 ≤ a1) (SC : Sta Z Z.heap "java/lang/String" "COMPACT_STRINGS" "Z" (.int wc)) (HWC : ¬ (wc = 0)) (hne : a2 ≠ a1) (hc_c0 : ¬ ((255 : Int32) < c0)) (hc_c1 : ¬ ((255 : Int32) < c1)) :
    MetFree l (⟨"java/lang/String", "<init>", "([C)V"⟩ : MethodName) (head1 (Jvm.Cond.code (⟨"java/lang/String", "<init>", "([C)V"⟩ : MethodName) jdk_42_method_3_code 2 none :: ws) ({ frames := 3, cells := 1, slots := 2, locals := 58 } : Room)) (fun a U => a = #[(.ref a1), (.ref a2)] ∧ Z.Warmed39 U.vm ∧ U.heap = h0) (fun _ _ _ _ _ => True) (fun _ U o U' => ∃ v L, o = .returned v ∧ Qs22 Z a1 a2 k2 c0 c1 u0 u1 wc h0 n0 v U'.heap L ∧ FrameEnd U o U' L ({ frames := 3, cells := 1, slots := 2, locals := 58 } : Room).cells ({ frames := 3, cells := 1, slots := 2, locals := 58 } : Room).slots) := by
  refine MetFree.of_bodySF (plainFor_of_name pn_s22) hisR ?_
  intro p e s m args below meth c s₁ Bd hml0 hP hK
  obtain ⟨rfl, hZ, hh⟩ := hP
  have hx := Bd.exec
  have hby := Bd.bytes
  have hml : c.maxLocals = 2 := hml0
  have hown : s.vm.findClass "java/lang/String" = some m.cls := findClass_of_methodNamed Bd.named
  have hnm := (name_of_methodNamed Bd.named Bd.method).1
  have X0 : Stand p l e ({ frames := 3, cells := 1, slots := 2, locals := 58 } : Room) s m #[(.ref a1), (.ref a2)] below meth c s₁ [] 0 0 := Stand.of_body Bd
  have e0 : s₁.heap = h0 := by rw [← hh, Bd.state]; rfl
  have N0 := Fr.nil n0
  show own_R p.tables e below (own_P s (Qs22 Z a1 a2 k2 c0 c1 u0 u1 wc h0 n0) ({ frames := 3, cells := 1, slots := 2, locals := 58 } : Room).cells ({ frames := 3, cells := 1, slots := 2, locals := 58 } : Room).slots) (s₁.setTop (entryFrame m #[(.ref a1), (.ref a2)] 2))
  refine own_f s₁ (mkF m 0 #[.val (.ref a1), .val (.ref a2)] []) (fun t k => castTop (ef_s22 m a1 a2) k) ?_
  refine own_f s₁ (mkF m 1 #[.val (.ref a1), .val (.ref a2)] [(.ref a1)]) (fun t k => XS.aloadN X0.here hx rfl (hb hby ds22_0) rfl rfl k) ?_
  refine own_f s₁ (mkF m 2 #[.val (.ref a1), .val (.ref a2)] [(.ref a2), (.ref a1)]) (fun t k => XS.aloadN X0.here hx rfl (hb hby ds22_1) rfl rfl k) ?_
  refine own_f s₁ (mkF m 3 #[.val (.ref a1), .val (.ref a2)] [(.int (0 : Int32)), (.ref a2), (.ref a1)]) (fun t k => XT.iconstV X0.here hx rfl (0 : Int32) (hb hby ds22_2) (by decide) k) ?_
  refine own_f s₁ (mkF m 4 #[.val (.ref a1), .val (.ref a2)] [(.ref a2), (.int (0 : Int32)), (.ref a2), (.ref a1)]) (fun t k => XS.aloadN X0.here hx rfl (hb hby ds22_3) rfl rfl k) ?_
  refine own_f s₁ (mkF m 5 #[.val (.ref a1), .val (.ref a2)] [(.int (2 : Int32)), (.int (0 : Int32)), (.ref a2), (.ref a1)]) (fun t k => own_len X0 hx hZ e0 F4 (g := (mkF m 4 #[.val (.ref a1), .val (.ref a2)] [(.ref a2), (.int (0 : Int32)), (.ref a2), (.ref a1)])) rfl rfl (hb hby ds22_4) k) ?_
  refine own_f s₁ (mkF m 6 #[.val (.ref a1), .val (.ref a2)] [.null, (.int (2 : Int32)), (.int (0 : Int32)), (.ref a2), (.ref a1)]) (fun t k => XS.aconstNull X0.here hx rfl (hb hby ds22_5) k) ?_
  obtain ⟨_, _, ⟨T2, Lq2, kq_2, nq_2⟩, -, X2, ⟨Lc2, hQ2, lq2, yq2, zq2⟩, st2⟩ := X0.specialBack hx (y := (⟨"java/lang/String", "<init>", "([CIILjava/lang/Void;)V"⟩ : MethodName)) rfl hown (mvT hZ (own_w hw 15 rfl)) (mvT hZ (own_w hw 16 rfl)) (mvT hZ (own_w hw 18 rfl)) (by decide) (backOf (W := 0) (rms42 l Z a0 hw [] a1 a2 _ _ _ _ _ _ h0 n0 Z0 F0 F1 F2 F3 F4 ge_a1 SC HWC hne hc_c0 hc_c1) hZ (own_w hw 18 rfl) (own_w hw 10 rfl) (by decide) (by decide)) (g := (mkF m 6 #[.val (.ref a1), .val (.ref a2)] [.null, (.int (2 : Int32)), (.int (0 : Int32)), (.ref a2), (.ref a1)])) rfl (by rw [hml]; rfl) (Steps.refl _) (a := a1) (argsL := [(.ref a2), (.int (0 : Int32)), (.int (2 : Int32)), .null]) (rest := []) (lenOf pd__CIILjava_lang_Void_V rfl) rfl (by show 2 * 0 + _ ≤ _; exact Nat.le_of_eq rfl) (hb hby ds22_6) (fun _ _ => ⟨rfl, e0, (by decide : 0 + 1 ≤ _), (by decide : 0 + 2 ≤ _)⟩)
  dsimp only [Pt.U, Pt.locs, Pt.cells, Pt.slots] at X2 lq2 yq2 zq2 st2 hQ2
  subst lq2 yq2 zq2
  obtain ⟨h2, e2⟩ : ∃ z, T2.heap = z := ⟨_, rfl⟩
  rw [e2] at hQ2
  unfold Qs42 at hQ2
  obtain ⟨b2, kb2, rfl, Nq2, qh2, G2_0, G2_1, G2_2, G2_3, H2_0⟩ := hQ2
  have N2 := Fr.app N0 Nq2
  have Zs2 : n0 ≤ h2.size := Nat.le_trans Z0 qh2.1
  have F_3 := F0.keep qh2 (allS ge_a1 all0)
  have F_4 := F4.keep qh2 (ninS hne nin0)
  have K2 : Keep h0 h2 [a1] := (Keep.refl h0 [a1]).trans qh2 (allS (Or.inl (by simp)) all0)
  have ne2_a1 : a1 ≠ b2 := Nat.ne_of_lt (Nat.lt_of_lt_of_le F1.lt H2_0)
  have ne2_a2 : a2 ≠ b2 := Nat.ne_of_lt (Nat.lt_of_lt_of_le F4.lt H2_0)
  have ge2 : n0 ≤ b2 := Nat.le_trans Z0 H2_0
  have gf2 : h0.size ≤ b2 := Nat.le_trans (Keep.refl h0 [a1]).1 H2_0
  refine own_g T2 (mkF m 9 #[.val (.ref a1), .val (.ref a2)] []) st2 ?_
  obtain ⟨fs, hr, hrun, hended, hW, hsame⟩ := X2.leave (v := none) (fun _ => rfl)
  refine ⟨_, _, X2.returnOut hx Bd.returns (hb hby ds22_9) hr, hrun, hended, _, _, rfl, ?_, ⟨_, rfl⟩, hW, hsame.mono (by decide) (by decide)⟩
  show Qs22 Z a1 a2 k2 c0 c1 u0 u1 wc h0 n0 _ T2.heap _
  rw [e2]
  exact ⟨b2, kb2, rfl, N2, K2, G2_0, G2_1, G2_2, G2_3, gf2⟩
theorem ds40_0 : decode jdk_42_method_149_code 0 = .ok (.aload_n 0, 1) := by decide +kernel
theorem ds40_1 : decode jdk_42_method_149_code 1 = .ok (.invokespecial 1, 3) := by decide +kernel
theorem ds40_4 : decode jdk_42_method_149_code 4 = .ok (.iload_n 3, 1) := by decide +kernel
theorem ds40_5 : decode jdk_42_method_149_code 5 = .ok (.ifCond .ne 22, 3) := by decide +kernel
theorem ds40_8 : decode jdk_42_method_149_code 8 = .ok (.aload_n 0, 1) := by decide +kernel
theorem ds40_9 : decode jdk_42_method_149_code 9 = .ok (.ldc 7, 2) := by decide +kernel
theorem ds40_11 : decode jdk_42_method_149_code 11 = .ok (.getfield 9, 3) := by decide +kernel
theorem ds40_14 : decode jdk_42_method_149_code 14 = .ok (.putfield 9, 3) := by decide +kernel
theorem ds40_17 : decode jdk_42_method_149_code 17 = .ok (.aload_n 0, 1) := by decide +kernel
theorem ds40_18 : decode jdk_42_method_149_code 18 = .ok (.ldc 7, 2) := by decide +kernel
theorem ds40_20 : decode jdk_42_method_149_code 20 = .ok (.getfield 15, 3) := by decide +kernel
theorem ds40_23 : decode jdk_42_method_149_code 23 = .ok (.putfield 15, 3) := by decide +kernel
theorem ds40_26 : decode jdk_42_method_149_code 26 = .ok (.return_, 1) := by decide +kernel
theorem pn_s40 : plainName "java/lang/String" = true := by first | (simp [plainName, overriddenIn]; done) | decide +kernel
theorem ef_s40 (m : MethodId) (x0 : Addr) (x1 : Addr) (x2 : Int32) (x3 : Int32) : entryFrame m #[(.ref x0), (.ref x1), (.int x2), (.int x3), .null] 6 = mkF m 0 #[.val (.ref x0), .val (.ref x1), .val (.int x2), .val (.int x3), .val .null, .unset] [] := by first | (simp [entryFrame, mkF, argsToLocals, Value.category]; done) | rfl
def Qs40 (Z : State) (a1 : Addr) (a2 : Addr) (u1 : Value) (h0 : Heap) (n0 : Nat) (v : Option Value) (h : Heap) (L : List Loc) : Prop := ∃ (b : Addr) (kb : ClassId), v = none ∧ Fr n0 L ∧ Keep h0 h [a1] ∧ Exa Z h a1 "java/lang/String" ∧ Fld Z h a1 "java/lang/String" "coder" "B" (.int (0 : Int32)) ∧ Fld Z h a1 "java/lang/String" "value" "[B" (.ref b) ∧ Arv Z h b kb .byte (0 : Int32) [] (.int 0)
set_option maxRecDepth 65536 in
set_option maxHeartbeats 40000000 in
theorem rms40 (l : Launch) (Z : State) (a0 : Array Value) (hw : ∀ d ∈ tables_1, d.before a0 Z = true) (ws : List Jvm.Cond) (a1 : Addr) (a2 : Addr) (u1 : Value) (h0 : Heap) (n0 : Nat) (Z0 : n0 ≤ h0.size) (F0 : Exa Z h0 a1 "java/lang/String") (F1 : Fld Z h0 a1 "java/lang/String" "value" "[B" .null) (F2 : Fld Z h0 a1 "java/lang/String" "coder" "B" u1) (ge_a1 : n0 ≤ a1) :
    MetFree l (⟨"java/lang/String", "<init>", "([CIILjava/lang/Void;)V"⟩ : MethodName) (head1 (Jvm.Cond.code (⟨"java/lang/String", "<init>", "([CIILjava/lang/Void;)V"⟩ : MethodName) jdk_42_method_149_code 6 none :: ws) ({ frames := 1, cells := 4, slots := 8, locals := 12 } : Room)) (fun a U => a = #[(.ref a1), (.ref a2), (.int (0 : Int32)), (.int (0 : Int32)), .null] ∧ Z.Warmed39 U.vm ∧ U.heap = h0 ∧ CHv Z own_EL U.vm h0) (fun _ _ _ _ _ => True) (fun _ U o U' => ∃ v L, o = .returned v ∧ Qs40 Z a1 a2 u1 h0 n0 v U'.heap L ∧ CHr Z own_EL U.vm U.heap U'.vm U'.heap ∧ ReturnedEndW U o U' L ({ frames := 1, cells := 4, slots := 8, locals := 12 } : Room).cells ({ frames := 1, cells := 4, slots := 8, locals := 12 } : Room).slots) := by
  refine MetFree.of_bodySF (plainFor_of_name pn_s40) hisR ?_
  intro p e s m args below meth c s₁ Bd hml0 hP hK
  obtain ⟨rfl, hZ, hh, hCH⟩ := hP
  have hx := Bd.exec
  have hby := Bd.bytes
  have hml : c.maxLocals = 6 := hml0
  have hown : s.vm.findClass "java/lang/String" = some m.cls := findClass_of_methodNamed Bd.named
  have hnm := (name_of_methodNamed Bd.named Bd.method).1
  have X0 : Stand p l e ({ frames := 1, cells := 4, slots := 8, locals := 12 } : Room) s m #[(.ref a1), (.ref a2), (.int (0 : Int32)), (.int (0 : Int32)), .null] below meth c s₁ [] 0 0 := Stand.of_body Bd
  have e0 : s₁.heap = h0 := by rw [← hh, Bd.state]; rfl
  have N0 := Fr.nil n0
  have hZ0 := hZ
  have hown0 := hown
  have hS : s.Since s.vm 0 := (State.WarmedH.refl s).since 0
  have hk : 0 ≤ h0.size := Nat.zero_le _
  have hR : CHr Z own_EL s.vm h0 s.vm h0 := CHr.refl hCH
  show own_R p.tables e below (own_PH Z s (Qs40 Z a1 a2 u1 h0 n0) ({ frames := 1, cells := 4, slots := 8, locals := 12 } : Room).cells ({ frames := 1, cells := 4, slots := 8, locals := 12 } : Room).slots) (s₁.setTop (entryFrame m #[(.ref a1), (.ref a2), (.int (0 : Int32)), (.int (0 : Int32)), .null] 6))
  refine own_f s₁ (mkF m 0 #[.val (.ref a1), .val (.ref a2), .val (.int (0 : Int32)), .val (.int (0 : Int32)), .val .null, .unset] []) (fun t k => castTop (ef_s40 m a1 a2 (0 : Int32) (0 : Int32)) k) ?_
  have Sf0 := own_safe (EL := own_EL) (vm := s.vm) hZ.alike F0 F1
  refine own_f s₁ (mkF m 1 #[.val (.ref a1), .val (.ref a2), .val (.int (0 : Int32)), .val (.int (0 : Int32)), .val .null, .unset] [(.ref a1)]) (fun t k => XS.aloadN X0.here hx rfl (hb hby ds40_0) rfl rfl k) ?_
  obtain ⟨T1, X1, e1, st1⟩ := initO X0 hx hZ hown (own_w hw 19 rfl) (own_w hw 20 rfl) (own_w hw 21 rfl) e0 (g := (mkF m 1 #[.val (.ref a1), .val (.ref a2), .val (.int (0 : Int32)), .val (.int (0 : Int32)), .val .null, .unset] [(.ref a1)])) rfl (by rw [hml]; rfl) rfl (hb hby ds40_1) (by decide) (W := 0) (by show 2 * 0 + _ ≤ _; exact Nat.le_of_eq rfl) (by decide)
  refine own_f T1 (mkF m 4 #[.val (.ref a1), .val (.ref a2), .val (.int (0 : Int32)), .val (.int (0 : Int32)), .val .null, .unset] []) st1 ?_
  refine own_f T1 (mkF m 5 #[.val (.ref a1), .val (.ref a2), .val (.int (0 : Int32)), .val (.int (0 : Int32)), .val .null, .unset] [(.int (0 : Int32))]) (fun t k => XS.iloadN X1.here hx rfl (hb hby ds40_4) rfl k) ?_
  refine own_f T1 (mkF m 8 #[.val (.ref a1), .val (.ref a2), .val (.int (0 : Int32)), .val (.int (0 : Int32)), .val .null, .unset] []) (fun t k => XS.ifNo X1.here hx rfl (hb hby ds40_5) rfl (XT.i0_ne_f (by decide)) k) ?_
  refine own_f T1 (mkF m 9 #[.val (.ref a1), .val (.ref a2), .val (.int (0 : Int32)), .val (.int (0 : Int32)), .val .null, .unset] [(.ref a1)]) (fun t k => XS.aloadN X1.here hx rfl (hb hby ds40_8) rfl rfl k) ?_
  obtain ⟨b2, T2, h2, ks2, c2, kc2, X2, e2, E2, hS, hk, hZ, hown, Ea2, Fc2, Fv2, Av2, -, -, hC2, -, hsf2, st2⟩ := ldcCH (s := s) (vm0 := s.vm) X1 hx hZ hown (own_w hw 22 rfl) (own_str hw) e1 hS hk (own_EW hw) (by decide) hR.1 (vs := []) (z := 0) (by decide) (by decide) (by decide) (g := (mkF m 9 #[.val (.ref a1), .val (.ref a2), .val (.int (0 : Int32)), .val (.int (0 : Int32)), .val .null, .unset] [(.ref a1)])) rfl (hb hby ds40_9) (n := 0) (by decide) (by decide) (by decide) (by decide)
  have Zs2 : n0 ≤ h2.size := Nat.le_trans Z0 E2.1
  have F_3 := F0.ext E2
  have F_4 := F1.ext E2
  have F_5 := F2.ext E2
  have F_6 := hC2.safe F0.lt Sf0
  have hR := hR.trans hC2
  have K2 : Keep h0 h2 [a1] := (Keep.refl h0 [a1]).ext E2
  have nea2 : b2 ≠ a1 := (hsf2 _ F_6).1.symm
  have neb2 : c2 ≠ a1 := (hsf2 _ F_6).2.symm
  refine own_f T2 (mkF m 11 #[.val (.ref a1), .val (.ref a2), .val (.int (0 : Int32)), .val (.int (0 : Int32)), .val .null, .unset] [(.ref b2), (.ref a1)]) st2 ?_
  obtain ⟨T7, X7, e7, st7⟩ := getF X2 hx hZ hown (host := "") (Or.inl (own_w hw 28 rfl)) Via.refl e2 Fv2 (g := (mkF m 11 #[.val (.ref a1), .val (.ref a2), .val (.int (0 : Int32)), .val (.int (0 : Int32)), .val .null, .unset] [(.ref b2), (.ref a1)])) rfl rfl (hb hby ds40_11)
  refine own_f T7 (mkF m 14 #[.val (.ref a1), .val (.ref a2), .val (.int (0 : Int32)), .val (.int (0 : Int32)), .val .null, .unset] [(.ref c2), (.ref a1)]) st7 ?_
  obtain ⟨T8, h8, X8, e8, W8, st8⟩ := putF X7 hx hZ hown (host := "") (Or.inl (own_w hw 28 rfl)) Via.refl e7 F_4 F_3 (Or.inr ⟨(own_w hw 24 rfl), rfl, hnm⟩) (own_w hw 9 rfl) (ty := (.array .byte)) (by decide) rfl rfl (g := (mkF m 14 #[.val (.ref a1), .val (.ref a2), .val (.int (0 : Int32)), .val (.int (0 : Int32)), .val .null, .unset] [(.ref c2), (.ref a1)])) rfl rfl (hb hby ds40_14)
  have N8 := Fr.snoc X8 N0 ge_a1
  have Zs8 : n0 ≤ h8.size := by rw [W8.size]; exact Zs2
  have hk := Nat.le_trans hk (Nat.le_of_eq W8.size.symm)
  have K8 : Keep h0 h8 [a1] := K2.wr W8 (Or.inl (by simp))
  have sfx : Safe Z own_EL T2.vm h2 a1 := F_6
  have F_9 := F_3.wr W8
  have F_10 := F_4.same W8
  have F_11 := F_5.other W8 (Or.inr (slot_ne (Or.inr (own_w hw 25 rfl)) (Or.inr (own_w hw 24 rfl)) (by decide) (t := .byte) (t' := (.array .byte)) (by decide) (by decide)))
  have F_12 := Safe.wr W8 sfx hR.1 F_6
  have F_13 := Ea2.wr W8
  have F_14 := Fc2.other W8 (Or.inl nea2)
  have F_15 := Fv2.other W8 (Or.inl nea2)
  have F_16 := Av2.other W8 neb2
  have hR := hR.trans (CHr.wr W8 sfx hR.1)
  refine own_f T8 (mkF m 17 #[.val (.ref a1), .val (.ref a2), .val (.int (0 : Int32)), .val (.int (0 : Int32)), .val .null, .unset] []) st8 ?_
  refine own_f T8 (mkF m 18 #[.val (.ref a1), .val (.ref a2), .val (.int (0 : Int32)), .val (.int (0 : Int32)), .val .null, .unset] [(.ref a1)]) (fun t k => XS.aloadN X8.here hx rfl (hb hby ds40_17) rfl rfl k) ?_
  obtain ⟨b17, T17, h17, ks17, c17, kc17, X17, e17, E17, hS, hk, hZ, hown, Ea17, Fc17, Fv17, Av17, -, -, hC17, -, hsf17, st17⟩ := ldcCH (s := s) (vm0 := T2.vm) X8 hx hZ hown (own_w hw 22 rfl) (own_str hw) e8 hS hk (own_EW hw) (by decide) hR.1 (vs := []) (z := 0) (by decide) (by decide) (by decide) (g := (mkF m 18 #[.val (.ref a1), .val (.ref a2), .val (.int (0 : Int32)), .val (.int (0 : Int32)), .val .null, .unset] [(.ref a1)])) rfl (hb hby ds40_18) (n := 0) (by decide) (by decide) (by decide) (by decide)
  have Zs17 : n0 ≤ h17.size := Nat.le_trans Zs8 E17.1
  have F_18 := F_9.ext E17
  have F_19 := F_10.ext E17
  have F_20 := F_11.ext E17
  have F_21 := hC17.safe F_9.lt F_12
  have F_22 := F_13.ext E17
  have F_23 := F_14.ext E17
  have F_24 := F_15.ext E17
  have F_25 := F_16.ext E17
  have hR := hR.trans hC17
  have K17 : Keep h0 h17 [a1] := K8.ext E17
  have nea17 : b17 ≠ a1 := (hsf17 _ F_21).1.symm
  have neb17 : c17 ≠ a1 := (hsf17 _ F_21).2.symm
  refine own_f T17 (mkF m 20 #[.val (.ref a1), .val (.ref a2), .val (.int (0 : Int32)), .val (.int (0 : Int32)), .val .null, .unset] [(.ref b17), (.ref a1)]) st17 ?_
  obtain ⟨T26, X26, e26, st26⟩ := getF X17 hx hZ hown (host := "") (Or.inl (own_w hw 29 rfl)) Via.refl e17 Fc17 (g := (mkF m 20 #[.val (.ref a1), .val (.ref a2), .val (.int (0 : Int32)), .val (.int (0 : Int32)), .val .null, .unset] [(.ref b17), (.ref a1)])) rfl rfl (hb hby ds40_20)
  refine own_f T26 (mkF m 23 #[.val (.ref a1), .val (.ref a2), .val (.int (0 : Int32)), .val (.int (0 : Int32)), .val .null, .unset] [(.int 0), (.ref a1)]) st26 ?_
  obtain ⟨T27, h27, X27, e27, W27, st27⟩ := putF X26 hx hZ hown (host := "") (Or.inl (own_w hw 29 rfl)) Via.refl e26 F_20 F_18 (Or.inr ⟨(own_w hw 25 rfl), rfl, hnm⟩) (own_w hw 9 rfl) (ty := .byte) (by decide) rfl rfl (g := (mkF m 23 #[.val (.ref a1), .val (.ref a2), .val (.int (0 : Int32)), .val (.int (0 : Int32)), .val .null, .unset] [(.int 0), (.ref a1)])) rfl rfl (hb hby ds40_23)
  have N27 := Fr.snoc X27 N8 ge_a1
  have Zs27 : n0 ≤ h27.size := by rw [W27.size]; exact Zs17
  have hk := Nat.le_trans hk (Nat.le_of_eq W27.size.symm)
  have K27 : Keep h0 h27 [a1] := K17.wr W27 (Or.inl (by simp))
  have sfx : Safe Z own_EL T17.vm h17 a1 := F_21
  have F_28 := F_18.wr W27
  have F_29 := F_19.other W27 (Or.inr (slot_ne (Or.inr (own_w hw 24 rfl)) (Or.inr (own_w hw 25 rfl)) (by decide) (t := (.array .byte)) (t' := .byte) (by decide) (by decide)))
  have F_30 := F_20.same W27
  have F_31 := Safe.wr W27 sfx hR.1 F_21
  have F_32 := F_22.wr W27
  have F_33 := F_23.other W27 (Or.inl nea2)
  have F_34 := F_24.other W27 (Or.inl nea2)
  have F_35 := F_25.other W27 neb2
  have F_36 := Ea17.wr W27
  have F_37 := Fc17.other W27 (Or.inl nea17)
  have F_38 := Fv17.other W27 (Or.inl nea17)
  have F_39 := Av17.other W27 neb17
  have hR := hR.trans (CHr.wr W27 sfx hR.1)
  refine own_f T27 (mkF m 26 #[.val (.ref a1), .val (.ref a2), .val (.int (0 : Int32)), .val (.int (0 : Int32)), .val .null, .unset] []) st27 ?_
  obtain ⟨fs, hr, hrun, hended, hW⟩ := Stand.leaveW (s := s) (vm₁ := T17.vm) X27 hS (by rw [e27]; exact hk) (v := none) (fun _ => rfl)
  have hCe : CHr Z own_EL s.vm s.heap (T27.setFrames fs).vm (T27.setFrames fs).heap := by show CHr Z own_EL s.vm s.heap T27.vm T27.heap; rw [hh, e27]; exact hR.trans (CHv.at (s := s) (vm0 := T17.vm) X27 hZ (own_EW hw) hR.1)
  refine ⟨_, _, X27.returnOut hx Bd.returns (hb hby ds40_26) hr, hrun, hended, _, _, rfl, ?_, hCe, hW.1, hW.2.1, hW.2.2.1, hW.2.2.2.mono (by decide) (by decide)⟩
  show Qs40 Z a1 a2 u1 h0 n0 _ T27.heap _
  rw [e27]
  exact ⟨c2, kc2, rfl, N27, K27, F_28, F_30, F_29, F_35⟩
theorem ds20_0 : decode jdk_42_method_3_code 0 = .ok (.aload_n 0, 1) := by decide +kernel
theorem ds20_1 : decode jdk_42_method_3_code 1 = .ok (.aload_n 1, 1) := by decide +kernel
theorem ds20_2 : decode jdk_42_method_3_code 2 = .ok (.iconst 0, 1) := by decide +kernel
theorem ds20_3 : decode jdk_42_method_3_code 3 = .ok (.aload_n 1, 1) := by decide +kernel
theorem ds20_4 : decode jdk_42_method_3_code 4 = .ok (.arraylength, 1) := by decide +kernel
theorem ds20_5 : decode jdk_42_method_3_code 5 = .ok (.aconst_null, 1) := by decide +kernel
theorem ds20_6 : decode jdk_42_method_3_code 6 = .ok (.invokespecial 27, 3) := by decide +kernel
theorem ds20_9 : decode jdk_42_method_3_code 9 = .ok (.return_, 1) := by decide +kernel
theorem pn_s20 : plainName "java/lang/String" = true := by first | (simp [plainName, overriddenIn]; done) | decide +kernel
theorem ef_s20 (m : MethodId) (x0 : Addr) (x1 : Addr) : entryFrame m #[(.ref x0), (.ref x1)] 2 = mkF m 0 #[.val (.ref x0), .val (.ref x1)] [] := by first | (simp [entryFrame, mkF, argsToLocals, Value.category]; done) | rfl
def Qs20 (Z : State) (a1 : Addr) (a2 : Addr) (k2 : ClassId) (u1 : Value) (h0 : Heap) (n0 : Nat) (v : Option Value) (h : Heap) (L : List Loc) : Prop := ∃ (b : Addr) (kb : ClassId), v = none ∧ Fr n0 L ∧ Keep h0 h [a1] ∧ Exa Z h a1 "java/lang/String" ∧ Fld Z h a1 "java/lang/String" "coder" "B" (.int (0 : Int32)) ∧ Fld Z h a1 "java/lang/String" "value" "[B" (.ref b) ∧ Arv Z h b kb .byte (0 : Int32) [] (.int 0)
set_option maxRecDepth 65536 in
set_option maxHeartbeats 40000000 in
theorem rms20 (l : Launch) (Z : State) (a0 : Array Value) (hw : ∀ d ∈ tables_1, d.before a0 Z = true) (ws : List Jvm.Cond) (a1 : Addr) (a2 : Addr) (k2 : ClassId) (u1 : Value) (h0 : Heap) (n0 : Nat) (Z0 : n0 ≤ h0.size) (F0 : Exa Z h0 a1 "java/lang/String") (F1 : Fld Z h0 a1 "java/lang/String" "value" "[B" .null) (F2 : Fld Z h0 a1 "java/lang/String" "coder" "B" u1) (F3 : Arv Z h0 a2 k2 .char (0 : Int32) [] (.int 0)) (ge_a1 : n0 ≤ a1) :
    MetFree l (⟨"java/lang/String", "<init>", "([C)V"⟩ : MethodName) (head1 (Jvm.Cond.code (⟨"java/lang/String", "<init>", "([C)V"⟩ : MethodName) jdk_42_method_3_code 2 none :: ws) ({ frames := 2, cells := 4, slots := 8, locals := 29 } : Room)) (fun a U => a = #[(.ref a1), (.ref a2)] ∧ Z.Warmed39 U.vm ∧ U.heap = h0 ∧ CHv Z own_EL U.vm h0) (fun _ _ _ _ _ => True) (fun _ U o U' => ∃ v L, o = .returned v ∧ Qs20 Z a1 a2 k2 u1 h0 n0 v U'.heap L ∧ CHr Z own_EL U.vm U.heap U'.vm U'.heap ∧ ReturnedEndW U o U' L ({ frames := 2, cells := 4, slots := 8, locals := 29 } : Room).cells ({ frames := 2, cells := 4, slots := 8, locals := 29 } : Room).slots) := by
  refine MetFree.of_bodySF (plainFor_of_name pn_s20) hisR ?_
  intro p e s m args below meth c s₁ Bd hml0 hP hK
  obtain ⟨rfl, hZ, hh, hCH⟩ := hP
  have hx := Bd.exec
  have hby := Bd.bytes
  have hml : c.maxLocals = 2 := hml0
  have hown : s.vm.findClass "java/lang/String" = some m.cls := findClass_of_methodNamed Bd.named
  have hnm := (name_of_methodNamed Bd.named Bd.method).1
  have X0 : Stand p l e ({ frames := 2, cells := 4, slots := 8, locals := 29 } : Room) s m #[(.ref a1), (.ref a2)] below meth c s₁ [] 0 0 := Stand.of_body Bd
  have e0 : s₁.heap = h0 := by rw [← hh, Bd.state]; rfl
  have N0 := Fr.nil n0
  have hZ0 := hZ
  have hown0 := hown
  have hS : s.Since s.vm 0 := (State.WarmedH.refl s).since 0
  have hk : 0 ≤ h0.size := Nat.zero_le _
  have hR : CHr Z own_EL s.vm h0 s.vm h0 := CHr.refl hCH
  show own_R p.tables e below (own_PH Z s (Qs20 Z a1 a2 k2 u1 h0 n0) ({ frames := 2, cells := 4, slots := 8, locals := 29 } : Room).cells ({ frames := 2, cells := 4, slots := 8, locals := 29 } : Room).slots) (s₁.setTop (entryFrame m #[(.ref a1), (.ref a2)] 2))
  refine own_f s₁ (mkF m 0 #[.val (.ref a1), .val (.ref a2)] []) (fun t k => castTop (ef_s20 m a1 a2) k) ?_
  refine own_f s₁ (mkF m 1 #[.val (.ref a1), .val (.ref a2)] [(.ref a1)]) (fun t k => XS.aloadN X0.here hx rfl (hb hby ds20_0) rfl rfl k) ?_
  refine own_f s₁ (mkF m 2 #[.val (.ref a1), .val (.ref a2)] [(.ref a2), (.ref a1)]) (fun t k => XS.aloadN X0.here hx rfl (hb hby ds20_1) rfl rfl k) ?_
  refine own_f s₁ (mkF m 3 #[.val (.ref a1), .val (.ref a2)] [(.int (0 : Int32)), (.ref a2), (.ref a1)]) (fun t k => XT.iconstV X0.here hx rfl (0 : Int32) (hb hby ds20_2) (by decide) k) ?_
  refine own_f s₁ (mkF m 4 #[.val (.ref a1), .val (.ref a2)] [(.ref a2), (.int (0 : Int32)), (.ref a2), (.ref a1)]) (fun t k => XS.aloadN X0.here hx rfl (hb hby ds20_3) rfl rfl k) ?_
  refine own_f s₁ (mkF m 5 #[.val (.ref a1), .val (.ref a2)] [(.int (0 : Int32)), (.int (0 : Int32)), (.ref a2), (.ref a1)]) (fun t k => own_len X0 hx hZ e0 F3 (g := (mkF m 4 #[.val (.ref a1), .val (.ref a2)] [(.ref a2), (.int (0 : Int32)), (.ref a2), (.ref a1)])) rfl rfl (hb hby ds20_4) k) ?_
  refine own_f s₁ (mkF m 6 #[.val (.ref a1), .val (.ref a2)] [.null, (.int (0 : Int32)), (.int (0 : Int32)), (.ref a2), (.ref a1)]) (fun t k => XS.aconstNull X0.here hx rfl (hb hby ds20_5) k) ?_
  obtain ⟨_, _, ⟨T2, Lq2, kq_2, nq_2⟩, -, X2, hSn2, hgr2, ⟨Lc2, hQ2, lq2, yq2, zq2, hC2⟩, st2⟩ := X0.specialBackS hx (y := (⟨"java/lang/String", "<init>", "([CIILjava/lang/Void;)V"⟩ : MethodName)) rfl hown (mvT hZ (own_w hw 15 rfl)) (mvT hZ (own_w hw 16 rfl)) (mvT hZ (own_w hw 18 rfl)) (by decide) (backOfSH (s := s) (vm0 := s.vm) (W := 0) (rms40 l Z a0 hw [] a1 a2 _ h0 n0 Z0 F0 F1 F2 ge_a1) hZ (own_w hw 18 rfl) (own_w hw 10 rfl) (by decide) (by decide) (own_EW hw) hR.1) (g := (mkF m 6 #[.val (.ref a1), .val (.ref a2)] [.null, (.int (0 : Int32)), (.int (0 : Int32)), (.ref a2), (.ref a1)])) rfl (by rw [hml]; rfl) (Steps.refl _) (a := a1) (argsL := [(.ref a2), (.int (0 : Int32)), (.int (0 : Int32)), .null]) (rest := []) (lenOf pd__CIILjava_lang_Void_V rfl) rfl (by show 2 * 0 + _ ≤ _; exact Nat.le_of_eq rfl) (hb hby ds20_6) (fun _ _ => ⟨rfl, e0, (by decide : 0 + 4 ≤ _), (by decide : 0 + 8 ≤ _)⟩)
  dsimp only [Pt.U, Pt.locs, Pt.cells, Pt.slots] at X2 lq2 yq2 zq2 st2 hQ2 hSn2 hgr2 hC2
  subst lq2 yq2 zq2
  obtain ⟨h2, e2⟩ : ∃ z, T2.heap = z := ⟨_, rfl⟩
  rw [e2] at hQ2 hC2
  have hS : s.Since T2.vm T2.heap.size := foldS (T := s₁) (U := T2) hS (by rw [e0]; exact hk) hSn2 hgr2
  have hZ : Z.Warmed39 (s.setVm T2.vm).vm := State.Warmed39.trans hZ0 hS.1
  have hown : (s.setVm T2.vm).vm.findClass "java/lang/String" = some m.cls := by rw [show (s.setVm T2.vm).vm = T2.vm from rfl, hS.1.alike.findClass]; exact hown0
  have X2 : Stand p l e ({ frames := 2, cells := 4, slots := 8, locals := 29 } : Room) (s.setVm T2.vm) m #[(.ref a1), (.ref a2)] below meth c T2 _ _ _ := X2
  rw [e2] at hS
  have hk : h2.size ≤ h2.size := Nat.le_refl _
  unfold Qs40 at hQ2
  obtain ⟨b2, kb2, rfl, Nq2, qh2, G2_0, G2_1, G2_2, G2_3⟩ := hQ2
  have N2 := Fr.app N0 Nq2
  have Zs2 : n0 ≤ h2.size := Nat.le_trans Z0 qh2.1
  have hR := hR.trans hC2
  have K2 : Keep h0 h2 [a1] := (Keep.refl h0 [a1]).trans qh2 (allS (Or.inl (by simp)) all0)
  refine own_g T2 (mkF m 9 #[.val (.ref a1), .val (.ref a2)] []) st2 ?_
  obtain ⟨fs, hr, hrun, hended, hW⟩ := Stand.leaveW (s := s) (vm₁ := T2.vm) X2 hS (by rw [e2]; exact hk) (v := none) (fun _ => rfl)
  have hCe : CHr Z own_EL s.vm s.heap (T2.setFrames fs).vm (T2.setFrames fs).heap := by show CHr Z own_EL s.vm s.heap T2.vm T2.heap; rw [hh, e2]; exact hR.trans (CHv.at (s := s) (vm0 := T2.vm) X2 hZ (own_EW hw) hR.1)
  refine ⟨_, _, X2.returnOut hx Bd.returns (hb hby ds20_9) hr, hrun, hended, _, _, rfl, ?_, hCe, hW.1, hW.2.1, hW.2.2.1, hW.2.2.2.mono (by decide) (by decide)⟩
  show Qs20 Z a1 a2 k2 u1 h0 n0 _ T2.heap _
  rw [e2]
  exact ⟨b2, kb2, rfl, N2, K2, G2_0, G2_1, G2_2, G2_3⟩
theorem dmk0_0 : decode method_2_code 0 = .ok (.iload_n 0, 1) := by decide +kernel
theorem dmk0_1 : decode method_2_code 1 = .ok (.ifCond .ne 14, 3) := by decide +kernel
theorem dmk0_4 : decode method_2_code 4 = .ok (.new 7, 3) := by decide +kernel
theorem dmk0_7 : decode method_2_code 7 = .ok (.dup, 1) := by decide +kernel
theorem dmk0_8 : decode method_2_code 8 = .ok (.iconst 0, 1) := by decide +kernel
theorem dmk0_9 : decode method_2_code 9 = .ok (.newarray .char, 2) := by decide +kernel
theorem dmk0_11 : decode method_2_code 11 = .ok (.invokespecial 9, 3) := by decide +kernel
theorem dmk0_14 : decode method_2_code 14 = .ok (.areturn, 1) := by decide +kernel
theorem pn_mk0 : plainName "com/example/demarcation/demarcation/SavepointNameMayMatchPinLaw" = true := by first | (simp [plainName, overriddenIn]; done) | decide +kernel
theorem ef_mk0 (m : MethodId) (x0 : Int32) (x1 : Int32) (x2 : Int32) : entryFrame m #[(.int x0), (.int x1), (.int x2)] 3 = mkF m 0 #[.val (.int x0), .val (.int x1), .val (.int x2)] [] := by first | (simp [entryFrame, mkF, argsToLocals, Value.category]; done) | rfl
def Qmk0 (Z : State) (c0 : Int32) (c1 : Int32) (wc : Int32) (h0 : Heap) (n0 : Nat) (v : Option Value) (h : Heap) (L : List Loc) : Prop := ∃ b : Addr, v = some (.ref b) ∧ Fr n0 L ∧ Keep h0 h [] ∧ own_S Z h b (0 : Int32) c0 c1 ∧ h0.size ≤ b
set_option maxRecDepth 65536 in
set_option maxHeartbeats 40000000 in
theorem rmmk0 (l : Launch) (Z : State) (a0 : Array Value) (hw : ∀ d ∈ tables_1, d.before a0 Z = true) (ws : List Jvm.Cond) (c0 : Int32) (c1 : Int32) (wc : Int32) (h0 : Heap) (n0 : Nat) (Z0 : n0 ≤ h0.size) (F0 : Old Z n0 h0) (SC : Sta Z Z.heap "java/lang/String" "COMPACT_STRINGS" "Z" (.int wc)) (HWC : ¬ (wc = 0)) (hn0 : nar .char c0 = c0) (hn1 : nar .char c1 = c1) (hc0 : ¬ ((255 : Int32) < c0)) (hc1 : ¬ ((255 : Int32) < c1)) :
    MetFree l (⟨"com/example/demarcation/demarcation/SavepointNameMayMatchPinLaw", "mk", "(ICC)Ljava/lang/String;"⟩ : MethodName) (head1 (Jvm.Cond.code (⟨"com/example/demarcation/demarcation/SavepointNameMayMatchPinLaw", "mk", "(ICC)Ljava/lang/String;"⟩ : MethodName) method_2_code 3 (some (.object "java/lang/String")) :: ws) ({ frames := 4, cells := 6, slots := 16, locals := 75 } : Room)) (fun a U => a = #[(.int (0 : Int32)), (.int c0), (.int c1)] ∧ Z.Warmed39 U.vm ∧ U.heap = h0 ∧ CHv Z own_EL U.vm h0) (fun _ _ _ _ _ => True) (fun _ U o U' => ∃ v L, o = .returned v ∧ Qmk0 Z c0 c1 wc h0 n0 v U'.heap L ∧ CHr Z own_EL U.vm U.heap U'.vm U'.heap ∧ ReturnedEndW U o U' L ({ frames := 4, cells := 6, slots := 16, locals := 75 } : Room).cells ({ frames := 4, cells := 6, slots := 16, locals := 75 } : Room).slots) := by
  refine MetFree.of_bodySF (plainFor_of_name pn_mk0) hisR ?_
  intro p e s m args below meth c s₁ Bd hml0 hP hK
  obtain ⟨rfl, hZ, hh, hCH⟩ := hP
  have hx := Bd.exec
  have hby := Bd.bytes
  have hml : c.maxLocals = 3 := hml0
  have hown : s.vm.findClass "com/example/demarcation/demarcation/SavepointNameMayMatchPinLaw" = some m.cls := findClass_of_methodNamed Bd.named
  have hnm := (name_of_methodNamed Bd.named Bd.method).1
  have X0 : Stand p l e ({ frames := 4, cells := 6, slots := 16, locals := 75 } : Room) s m #[(.int (0 : Int32)), (.int c0), (.int c1)] below meth c s₁ [] 0 0 := Stand.of_body Bd
  have e0 : s₁.heap = h0 := by rw [← hh, Bd.state]; rfl
  have N0 := Fr.nil n0
  have hZ0 := hZ
  have hown0 := hown
  have hS : s.Since s.vm 0 := (State.WarmedH.refl s).since 0
  have hk : 0 ≤ h0.size := Nat.zero_le _
  have hR : CHr Z own_EL s.vm h0 s.vm h0 := CHr.refl hCH
  show own_R p.tables e below (own_PH Z s (Qmk0 Z c0 c1 wc h0 n0) ({ frames := 4, cells := 6, slots := 16, locals := 75 } : Room).cells ({ frames := 4, cells := 6, slots := 16, locals := 75 } : Room).slots) (s₁.setTop (entryFrame m #[(.int (0 : Int32)), (.int c0), (.int c1)] 3))
  refine own_f s₁ (mkF m 0 #[.val (.int (0 : Int32)), .val (.int c0), .val (.int c1)] []) (fun t k => castTop (ef_mk0 m (0 : Int32) c0 c1) k) ?_
  refine own_f s₁ (mkF m 1 #[.val (.int (0 : Int32)), .val (.int c0), .val (.int c1)] [(.int (0 : Int32))]) (fun t k => XS.iloadN X0.here hx rfl (hb hby dmk0_0) rfl k) ?_
  refine own_f s₁ (mkF m 4 #[.val (.int (0 : Int32)), .val (.int c0), .val (.int c1)] []) (fun t k => XS.ifNo X0.here hx rfl (hb hby dmk0_1) rfl (XT.i0_ne_f (by decide)) k) ?_
  obtain ⟨T1, h1, X1, e1, E1, A1, D1, U1, st1⟩ := newO X0 hx hZ hown (own_w hw 8 rfl) (own_w hw 9 rfl) (own_w hw 10 rfl) e0 (g := (mkF m 4 #[.val (.int (0 : Int32)), .val (.int c0), .val (.int c1)] [])) rfl (hb hby dmk0_4) (by decide) (by decide)
  obtain ⟨b1, g1⟩ : ∃ z, z = h0.size := ⟨_, rfl⟩
  rw [← g1] at A1 D1 st1
  have ge1 : n0 ≤ b1 := by rw [g1]; exact Z0
  have gf1 : h0.size ≤ b1 := by rw [g1]; exact (Keep.refl h0 []).1
  have Zs1 : n0 ≤ h1.size := Nat.le_trans Z0 E1.1
  have hk := Nat.le_trans hk E1.1
  have F_2 := F0.ext E1
  have hR := hR.trans (CHr.ext E1 hR.1)
  have K1 : Keep h0 h1 [] := (Keep.refl h0 []).ext E1
  have F_3 : Fld Z h1 b1 "java/lang/String" "value" "[B" .null := D1 (Or.inr (own_w hw 24 rfl)) (ty := (.array .byte)) (by decide)
  have F_4 : Fld Z h1 b1 "java/lang/String" "coder" "B" (.int 0) := D1 (Or.inr (own_w hw 25 rfl)) (ty := .byte) (by decide)
  refine own_f T1 (mkF m 7 #[.val (.int (0 : Int32)), .val (.int c0), .val (.int c1)] [(.ref b1)]) st1 ?_
  refine own_f T1 (mkF m 8 #[.val (.int (0 : Int32)), .val (.int c0), .val (.int c1)] [(.ref b1), (.ref b1)]) (fun t k => XS.dup X1.here hx rfl (hb hby dmk0_7) rfl rfl k) ?_
  refine own_f T1 (mkF m 9 #[.val (.int (0 : Int32)), .val (.int c0), .val (.int c1)] [(.int (0 : Int32)), (.ref b1), (.ref b1)]) (fun t k => XT.iconstV X1.here hx rfl (0 : Int32) (hb hby dmk0_8) (by decide) k) ?_
  obtain ⟨T5, h5, kA5, X5, e5, E5, A5, st5⟩ := newP X1 hx hZ (own_w hw 11 rfl) e1 (g := (mkF m 9 #[.val (.int (0 : Int32)), .val (.int c0), .val (.int c1)] [(.int (0 : Int32)), (.ref b1), (.ref b1)])) rfl (hb hby dmk0_9) rfl (by decide) (cap := 0) (by decide) (by decide) (by decide) (by decide)
  obtain ⟨b5, g5⟩ : ∃ z, z = h1.size := ⟨_, rfl⟩
  rw [← g5] at A5 st5
  have ne5_b1 : b1 ≠ b5 := by rw [g5]; exact Nat.ne_of_lt A1.lt
  have ge5 : n0 ≤ b5 := by rw [g5]; exact Zs1
  have gf5 : h0.size ≤ b5 := by rw [g5]; exact K1.1
  have Zs5 : n0 ≤ h5.size := Nat.le_trans Zs1 E5.1
  have hk := Nat.le_trans hk E5.1
  have F_6 := F_2.ext E5
  have F_7 := A1.ext E5
  have F_8 := F_3.ext E5
  have F_9 := F_4.ext E5
  have hR := hR.trans (CHr.ext E5 hR.1)
  have K5 : Keep h0 h5 [] := K1.ext E5
  have F_10 : Arv Z h5 b5 kA5 .char (0 : Int32) [] (.int 0) := own_arvnew 0 A5 (by decide)
  refine own_f T5 (mkF m 11 #[.val (.int (0 : Int32)), .val (.int c0), .val (.int c1)] [(.ref b5), (.ref b1), (.ref b1)]) st5 ?_
  obtain ⟨_, _, ⟨T11, Lq11, kq_11, nq_11⟩, -, X11, hSn11, hgr11, ⟨Lc11, hQ11, lq11, yq11, zq11, hC11⟩, st11⟩ := X5.specialBackS hx (y := (⟨"java/lang/String", "<init>", "([C)V"⟩ : MethodName)) rfl hown (mvT hZ (own_w hw 12 rfl)) (mvT hZ (own_w hw 13 rfl)) (mvT hZ (own_w hw 14 rfl)) (by decide) (backOfSH (s := s) (vm0 := s.vm) (W := 1) (rms20 l Z a0 hw [] b1 b5 _ _ h5 n0 Zs5 F_7 F_8 F_9 F_10 ge1) hZ (own_w hw 14 rfl) (own_w hw 10 rfl) (by decide) (by decide) (own_EW hw) hR.1) (g := (mkF m 11 #[.val (.int (0 : Int32)), .val (.int c0), .val (.int c1)] [(.ref b5), (.ref b1), (.ref b1)])) rfl (by rw [hml]; rfl) (Steps.refl _) (a := b1) (argsL := [(.ref b5)]) (rest := [(.ref b1)]) (lenOf pd__C_V rfl) rfl (by show 2 * 0 + _ ≤ _; exact Nat.le_of_eq rfl) (hb hby dmk0_11) (fun _ _ => ⟨rfl, e5, (by decide : 0 + 1 + 1 + 4 ≤ _), (by decide : 0 + 4 + 0 + 8 ≤ _)⟩)
  dsimp only [Pt.U, Pt.locs, Pt.cells, Pt.slots] at X11 lq11 yq11 zq11 st11 hQ11 hSn11 hgr11 hC11
  subst lq11 yq11 zq11
  obtain ⟨h11, e11⟩ : ∃ z, T11.heap = z := ⟨_, rfl⟩
  rw [e11] at hQ11 hC11
  have hS : s.Since T11.vm T11.heap.size := foldS (T := T5) (U := T11) hS (by rw [e5]; exact hk) hSn11 hgr11
  have hZ : Z.Warmed39 (s.setVm T11.vm).vm := State.Warmed39.trans hZ0 hS.1
  have hown : (s.setVm T11.vm).vm.findClass "com/example/demarcation/demarcation/SavepointNameMayMatchPinLaw" = some m.cls := by rw [show (s.setVm T11.vm).vm = T11.vm from rfl, hS.1.alike.findClass]; exact hown0
  have X11 : Stand p l e ({ frames := 4, cells := 6, slots := 16, locals := 75 } : Room) (s.setVm T11.vm) m #[(.int (0 : Int32)), (.int c0), (.int c1)] below meth c T11 _ _ _ := X11
  rw [e11] at hS
  have hk : h11.size ≤ h11.size := Nat.le_refl _
  unfold Qs20 at hQ11
  obtain ⟨b11, kb11, rfl, Nq11, qh11, G11_0, G11_1, G11_2, G11_3⟩ := hQ11
  have N11 := Fr.app N0 Nq11
  have Zs11 : n0 ≤ h11.size := Nat.le_trans Zs5 qh11.1
  have F_12 := F_6.keep qh11 (allS ge1 all0)
  have F_13 := F_10.keep qh11 (ninS (Ne.symm ne5_b1) nin0)
  have hR := hR.trans hC11
  have K11 : Keep h0 h11 [] := K5.trans qh11 (allS (Or.inr gf1) all0)
  refine own_g T11 (mkF m 14 #[.val (.int (0 : Int32)), .val (.int c0), .val (.int c1)] [(.ref b1)]) st11 ?_
  obtain ⟨fs, hr, hrun, hended, hW⟩ := Stand.leaveW (s := s) (vm₁ := T11.vm) X11 hS (by rw [e11]; exact hk) (v := some (.ref b1)) (fun h => by rw [Bd.returns] at h; cases h)
  have hCe : CHr Z own_EL s.vm s.heap (T11.setFrames fs).vm (T11.setFrames fs).heap := by show CHr Z own_EL s.vm s.heap T11.vm T11.heap; rw [hh, e11]; exact hR.trans (CHv.at (s := s) (vm0 := T11.vm) X11 hZ (own_EW hw) hR.1)
  refine ⟨_, _, retOut X11 hx Bd.returns (by rfl) (Or.inr (Or.inr (Or.inr (Or.inr ⟨rfl, rfl, rfl⟩)))) (hb hby dmk0_14) hr, hrun, hended, _, _, rfl, ?_, hCe, hW.1, hW.2.1, hW.2.2.1, hW.2.2.2.mono (by decide) (by decide)⟩
  show Qmk0 Z c0 c1 wc h0 n0 _ T11.heap _
  rw [e11]
  exact ⟨b1, rfl, N11, K11, ⟨b11, kb11, G11_0, G11_1, G11_2, by rw [own_vs0]; exact G11_3⟩, gf1⟩
theorem dmk1_0 : decode method_2_code 0 = .ok (.iload_n 0, 1) := by decide +kernel
theorem dmk1_1 : decode method_2_code 1 = .ok (.ifCond .ne 14, 3) := by decide +kernel
theorem dmk1_15 : decode method_2_code 15 = .ok (.iload_n 0, 1) := by decide +kernel
theorem dmk1_16 : decode method_2_code 16 = .ok (.iconst 1, 1) := by decide +kernel
theorem dmk1_17 : decode method_2_code 17 = .ok (.if_icmp .ne 18, 3) := by decide +kernel
theorem dmk1_20 : decode method_2_code 20 = .ok (.new 7, 3) := by decide +kernel
theorem dmk1_23 : decode method_2_code 23 = .ok (.dup, 1) := by decide +kernel
theorem dmk1_24 : decode method_2_code 24 = .ok (.iconst 1, 1) := by decide +kernel
theorem dmk1_25 : decode method_2_code 25 = .ok (.newarray .char, 2) := by decide +kernel
theorem dmk1_27 : decode method_2_code 27 = .ok (.dup, 1) := by decide +kernel
theorem dmk1_28 : decode method_2_code 28 = .ok (.iconst 0, 1) := by decide +kernel
theorem dmk1_29 : decode method_2_code 29 = .ok (.iload_n 1, 1) := by decide +kernel
theorem dmk1_30 : decode method_2_code 30 = .ok (.castore, 1) := by decide +kernel
theorem dmk1_31 : decode method_2_code 31 = .ok (.invokespecial 9, 3) := by decide +kernel
theorem dmk1_34 : decode method_2_code 34 = .ok (.areturn, 1) := by decide +kernel
theorem pn_mk1 : plainName "com/example/demarcation/demarcation/SavepointNameMayMatchPinLaw" = true := by first | (simp [plainName, overriddenIn]; done) | decide +kernel
theorem ef_mk1 (m : MethodId) (x0 : Int32) (x1 : Int32) (x2 : Int32) : entryFrame m #[(.int x0), (.int x1), (.int x2)] 3 = mkF m 0 #[.val (.int x0), .val (.int x1), .val (.int x2)] [] := by first | (simp [entryFrame, mkF, argsToLocals, Value.category]; done) | rfl
def Qmk1 (Z : State) (c0 : Int32) (c1 : Int32) (wc : Int32) (h0 : Heap) (n0 : Nat) (v : Option Value) (h : Heap) (L : List Loc) : Prop := ∃ b : Addr, v = some (.ref b) ∧ Fr n0 L ∧ Keep h0 h [] ∧ own_S Z h b (1 : Int32) c0 c1 ∧ h0.size ≤ b
set_option maxRecDepth 65536 in
set_option maxHeartbeats 40000000 in
theorem rmmk1 (l : Launch) (Z : State) (a0 : Array Value) (hw : ∀ d ∈ tables_1, d.before a0 Z = true) (ws : List Jvm.Cond) (c0 : Int32) (c1 : Int32) (wc : Int32) (h0 : Heap) (n0 : Nat) (Z0 : n0 ≤ h0.size) (F0 : Old Z n0 h0) (SC : Sta Z Z.heap "java/lang/String" "COMPACT_STRINGS" "Z" (.int wc)) (HWC : ¬ (wc = 0)) (hn0 : nar .char c0 = c0) (hn1 : nar .char c1 = c1) (hc0 : ¬ ((255 : Int32) < c0)) (hc1 : ¬ ((255 : Int32) < c1)) :
    MetFree l (⟨"com/example/demarcation/demarcation/SavepointNameMayMatchPinLaw", "mk", "(ICC)Ljava/lang/String;"⟩ : MethodName) (head1 (Jvm.Cond.code (⟨"com/example/demarcation/demarcation/SavepointNameMayMatchPinLaw", "mk", "(ICC)Ljava/lang/String;"⟩ : MethodName) method_2_code 3 (some (.object "java/lang/String")) :: ws) ({ frames := 4, cells := 6, slots := 16, locals := 75 } : Room)) (fun a U => a = #[(.int (1 : Int32)), (.int c0), (.int c1)] ∧ Z.Warmed39 U.vm ∧ U.heap = h0 ∧ CHv Z own_EL U.vm h0) (fun _ _ _ _ _ => True) (fun _ U o U' => ∃ v L, o = .returned v ∧ Qmk1 Z c0 c1 wc h0 n0 v U'.heap L ∧ CHr Z own_EL U.vm U.heap U'.vm U'.heap ∧ ReturnedEndW U o U' L ({ frames := 4, cells := 6, slots := 16, locals := 75 } : Room).cells ({ frames := 4, cells := 6, slots := 16, locals := 75 } : Room).slots) := by
  refine MetFree.of_bodySF (plainFor_of_name pn_mk1) hisR ?_
  intro p e s m args below meth c s₁ Bd hml0 hP hK
  obtain ⟨rfl, hZ, hh, hCH⟩ := hP
  have hx := Bd.exec
  have hby := Bd.bytes
  have hml : c.maxLocals = 3 := hml0
  have hown : s.vm.findClass "com/example/demarcation/demarcation/SavepointNameMayMatchPinLaw" = some m.cls := findClass_of_methodNamed Bd.named
  have hnm := (name_of_methodNamed Bd.named Bd.method).1
  have X0 : Stand p l e ({ frames := 4, cells := 6, slots := 16, locals := 75 } : Room) s m #[(.int (1 : Int32)), (.int c0), (.int c1)] below meth c s₁ [] 0 0 := Stand.of_body Bd
  have e0 : s₁.heap = h0 := by rw [← hh, Bd.state]; rfl
  have N0 := Fr.nil n0
  have hZ0 := hZ
  have hown0 := hown
  have hS : s.Since s.vm 0 := (State.WarmedH.refl s).since 0
  have hk : 0 ≤ h0.size := Nat.zero_le _
  have hR : CHr Z own_EL s.vm h0 s.vm h0 := CHr.refl hCH
  show own_R p.tables e below (own_PH Z s (Qmk1 Z c0 c1 wc h0 n0) ({ frames := 4, cells := 6, slots := 16, locals := 75 } : Room).cells ({ frames := 4, cells := 6, slots := 16, locals := 75 } : Room).slots) (s₁.setTop (entryFrame m #[(.int (1 : Int32)), (.int c0), (.int c1)] 3))
  refine own_f s₁ (mkF m 0 #[.val (.int (1 : Int32)), .val (.int c0), .val (.int c1)] []) (fun t k => castTop (ef_mk1 m (1 : Int32) c0 c1) k) ?_
  refine own_f s₁ (mkF m 1 #[.val (.int (1 : Int32)), .val (.int c0), .val (.int c1)] [(.int (1 : Int32))]) (fun t k => XS.iloadN X0.here hx rfl (hb hby dmk1_0) rfl k) ?_
  refine own_f s₁ (mkF m 15 #[.val (.int (1 : Int32)), .val (.int c0), .val (.int c1)] []) (fun t k => XS.ifYes X0.here hx rfl (pc0 := 1) (pc' := 15) rfl (hb hby dmk1_1) rfl (XT.i0_ne_t (by decide)) (by decide) (by decide) k) ?_
  refine own_f s₁ (mkF m 16 #[.val (.int (1 : Int32)), .val (.int c0), .val (.int c1)] [(.int (1 : Int32))]) (fun t k => XS.iloadN X0.here hx rfl (hb hby dmk1_15) rfl k) ?_
  refine own_f s₁ (mkF m 17 #[.val (.int (1 : Int32)), .val (.int c0), .val (.int c1)] [(.int (1 : Int32)), (.int (1 : Int32))]) (fun t k => XT.iconstV X0.here hx rfl (1 : Int32) (hb hby dmk1_16) (by decide) k) ?_
  refine own_f s₁ (mkF m 20 #[.val (.int (1 : Int32)), .val (.int c0), .val (.int c1)] []) (fun t k => XS.icmpNo X0.here hx rfl (hb hby dmk1_17) rfl (XT.ii_ne_f (by decide)) k) ?_
  obtain ⟨T1, h1, X1, e1, E1, A1, D1, U1, st1⟩ := newO X0 hx hZ hown (own_w hw 8 rfl) (own_w hw 9 rfl) (own_w hw 10 rfl) e0 (g := (mkF m 20 #[.val (.int (1 : Int32)), .val (.int c0), .val (.int c1)] [])) rfl (hb hby dmk1_20) (by decide) (by decide)
  obtain ⟨b1, g1⟩ : ∃ z, z = h0.size := ⟨_, rfl⟩
  rw [← g1] at A1 D1 st1
  have ge1 : n0 ≤ b1 := by rw [g1]; exact Z0
  have gf1 : h0.size ≤ b1 := by rw [g1]; exact (Keep.refl h0 []).1
  have Zs1 : n0 ≤ h1.size := Nat.le_trans Z0 E1.1
  have hk := Nat.le_trans hk E1.1
  have F_2 := F0.ext E1
  have hR := hR.trans (CHr.ext E1 hR.1)
  have K1 : Keep h0 h1 [] := (Keep.refl h0 []).ext E1
  have F_3 : Fld Z h1 b1 "java/lang/String" "value" "[B" .null := D1 (Or.inr (own_w hw 24 rfl)) (ty := (.array .byte)) (by decide)
  have F_4 : Fld Z h1 b1 "java/lang/String" "coder" "B" (.int 0) := D1 (Or.inr (own_w hw 25 rfl)) (ty := .byte) (by decide)
  refine own_f T1 (mkF m 23 #[.val (.int (1 : Int32)), .val (.int c0), .val (.int c1)] [(.ref b1)]) st1 ?_
  refine own_f T1 (mkF m 24 #[.val (.int (1 : Int32)), .val (.int c0), .val (.int c1)] [(.ref b1), (.ref b1)]) (fun t k => XS.dup X1.here hx rfl (hb hby dmk1_23) rfl rfl k) ?_
  refine own_f T1 (mkF m 25 #[.val (.int (1 : Int32)), .val (.int c0), .val (.int c1)] [(.int (1 : Int32)), (.ref b1), (.ref b1)]) (fun t k => XT.iconstV X1.here hx rfl (1 : Int32) (hb hby dmk1_24) (by decide) k) ?_
  obtain ⟨T5, h5, kA5, X5, e5, E5, A5, st5⟩ := newP X1 hx hZ (own_w hw 11 rfl) e1 (g := (mkF m 25 #[.val (.int (1 : Int32)), .val (.int c0), .val (.int c1)] [(.int (1 : Int32)), (.ref b1), (.ref b1)])) rfl (hb hby dmk1_25) rfl (by decide) (cap := 1) (by decide) (by decide) (by decide) (by decide)
  obtain ⟨b5, g5⟩ : ∃ z, z = h1.size := ⟨_, rfl⟩
  rw [← g5] at A5 st5
  have ne5_b1 : b1 ≠ b5 := by rw [g5]; exact Nat.ne_of_lt A1.lt
  have ge5 : n0 ≤ b5 := by rw [g5]; exact Zs1
  have gf5 : h0.size ≤ b5 := by rw [g5]; exact K1.1
  have Zs5 : n0 ≤ h5.size := Nat.le_trans Zs1 E5.1
  have hk := Nat.le_trans hk E5.1
  have F_6 := F_2.ext E5
  have F_7 := A1.ext E5
  have F_8 := F_3.ext E5
  have F_9 := F_4.ext E5
  have hR := hR.trans (CHr.ext E5 hR.1)
  have K5 : Keep h0 h5 [] := K1.ext E5
  have F_10 : Arv Z h5 b5 kA5 .char (1 : Int32) [.int 0] (.int 0) := own_arvnew 1 A5 (by decide)
  refine own_f T5 (mkF m 27 #[.val (.int (1 : Int32)), .val (.int c0), .val (.int c1)] [(.ref b5), (.ref b1), (.ref b1)]) st5 ?_
  refine own_f T5 (mkF m 28 #[.val (.int (1 : Int32)), .val (.int c0), .val (.int c1)] [(.ref b5), (.ref b5), (.ref b1), (.ref b1)]) (fun t k => XS.dup X5.here hx rfl (hb hby dmk1_27) rfl rfl k) ?_
  refine own_f T5 (mkF m 29 #[.val (.int (1 : Int32)), .val (.int c0), .val (.int c1)] [(.int (0 : Int32)), (.ref b5), (.ref b5), (.ref b1), (.ref b1)]) (fun t k => XT.iconstV X5.here hx rfl (0 : Int32) (hb hby dmk1_28) (by decide) k) ?_
  refine own_f T5 (mkF m 30 #[.val (.int (1 : Int32)), .val (.int c0), .val (.int c1)] [(.int c0), (.int (0 : Int32)), (.ref b5), (.ref b5), (.ref b1), (.ref b1)]) (fun t k => XS.iloadN X5.here hx rfl (hb hby dmk1_29) rfl k) ?_
  obtain ⟨cl11, Ar11, q111, Sz11, q311, Hs11, Gs11⟩ := id F_10
  obtain ⟨T11, h11, X11, e11, W11, st11⟩ := stC X5 hx hZ e5 Ar11 (j := (0 : Int32)) (inb_of Sz11 ⟨by decide, by decide⟩) (g := (mkF m 30 #[.val (.int (1 : Int32)), .val (.int c0), .val (.int c1)] [(.int c0), (.int (0 : Int32)), (.ref b5), (.ref b5), (.ref b1), (.ref b1)])) rfl rfl (hb hby dmk1_30)
  have N11 := Fr.snoc X11 N0 ge5
  have Zs11 : n0 ≤ h11.size := by rw [W11.size]; exact Zs5
  have hk := Nat.le_trans hk (Nat.le_of_eq W11.size.symm)
  have K11 : Keep h0 h11 [] := K5.wr W11 (Or.inr gf5)
  have sfx : Safe Z own_EL s.vm h5 b5 := (Safe.arv hZ.alike F_10 (by decide))
  have F_12 := F_6.wr W11 ge5
  have F_13 := F_7.wr W11
  have F_14 := F_8.other W11 (Or.inl ne5_b1)
  have F_15 := F_9.other W11 (Or.inl ne5_b1)
  have F_16 : Arv Z h11 b5 kA5 .char (1 : Int32) [.int c0] (.int 0) := Arv.set Ar11 q111 Sz11 q311 Hs11 Gs11 (by rw [← (hn0 : nar .char c0 = c0)]; exact fits_nar_char _) (by rw [(hn0 : nar .char c0 = c0)] at W11; exact W11) 0 (by decide) (by simp)
  have hR := hR.trans (CHr.wr W11 sfx hR.1)
  refine own_f T11 (mkF m 31 #[.val (.int (1 : Int32)), .val (.int c0), .val (.int c1)] [(.ref b5), (.ref b1), (.ref b1)]) st11 ?_
  obtain ⟨_, _, ⟨T17, Lq17, kq_17, nq_17⟩, -, X17, ⟨Lc17, hQ17, lq17, yq17, zq17⟩, st17⟩ := X11.specialBack hx (y := (⟨"java/lang/String", "<init>", "([C)V"⟩ : MethodName)) rfl hown (mvT hZ (own_w hw 12 rfl)) (mvT hZ (own_w hw 13 rfl)) (mvT hZ (own_w hw 14 rfl)) (by decide) (backOf (W := 1) (rms21 l Z a0 hw [] b1 b5 _ _ _ _ _ h11 n0 Zs11 F_12 F_13 F_14 F_15 F_16 ge1 SC HWC (Ne.symm ne5_b1) hc0) hZ (own_w hw 14 rfl) (own_w hw 10 rfl) (by decide) (by decide)) (g := (mkF m 31 #[.val (.int (1 : Int32)), .val (.int c0), .val (.int c1)] [(.ref b5), (.ref b1), (.ref b1)])) rfl (by rw [hml]; rfl) (Steps.refl _) (a := b1) (argsL := [(.ref b5)]) (rest := [(.ref b1)]) (lenOf pd__C_V rfl) rfl (by show 2 * 0 + _ ≤ _; exact Nat.le_of_eq rfl) (hb hby dmk1_31) (fun _ _ => ⟨rfl, e11, (by decide : 0 + 1 + 1 + 1 ≤ _), (by decide : 0 + 4 + 1 + 1 ≤ _)⟩)
  dsimp only [Pt.U, Pt.locs, Pt.cells, Pt.slots] at X17 lq17 yq17 zq17 st17 hQ17
  subst lq17 yq17 zq17
  obtain ⟨h17, e17⟩ : ∃ z, T17.heap = z := ⟨_, rfl⟩
  rw [e17] at hQ17
  unfold Qs21 at hQ17
  obtain ⟨b17, kb17, rfl, Nq17, qh17, G17_0, G17_1, G17_2, G17_3, H17_0⟩ := hQ17
  have N17 := Fr.app N11 Nq17
  have Zs17 : n0 ≤ h17.size := Nat.le_trans Zs11 qh17.1
  have hk := Nat.le_trans hk qh17.1
  have hsf : ∀ x ∈ ([b1] : List Addr), Safe Z own_EL s.vm h11 x := (sfS (own_safe hZ.alike F_13 F_14) sf0)
  have F_18 := F_12.keep qh17 (allS ge1 all0)
  have F_19 := F_16.keep qh17 (ninS (Ne.symm ne5_b1) nin0)
  have hR := hR.trans (CHr.keep qh17 hsf hR.1)
  have K17 : Keep h0 h17 [] := K11.trans qh17 (allS (Or.inr gf1) all0)
  have ne17_b1 : b1 ≠ b17 := Nat.ne_of_lt (Nat.lt_of_lt_of_le F_13.lt H17_0)
  have ne17_b5 : b5 ≠ b17 := Nat.ne_of_lt (Nat.lt_of_lt_of_le F_16.lt H17_0)
  have ge17 : n0 ≤ b17 := Nat.le_trans Zs11 H17_0
  have gf17 : h0.size ≤ b17 := Nat.le_trans K11.1 H17_0
  refine own_g T17 (mkF m 34 #[.val (.int (1 : Int32)), .val (.int c0), .val (.int c1)] [(.ref b1)]) st17 ?_
  obtain ⟨fs, hr, hrun, hended, hW⟩ := Stand.leaveW (s := s) (vm₁ := s.vm) X17 hS (by rw [e17]; exact hk) (v := some (.ref b1)) (fun h => by rw [Bd.returns] at h; cases h)
  have hCe : CHr Z own_EL s.vm s.heap (T17.setFrames fs).vm (T17.setFrames fs).heap := by show CHr Z own_EL s.vm s.heap T17.vm T17.heap; rw [hh, e17]; exact hR.trans (CHv.at (s := s) (vm0 := s.vm) X17 hZ (own_EW hw) hR.1)
  refine ⟨_, _, retOut X17 hx Bd.returns (by rfl) (Or.inr (Or.inr (Or.inr (Or.inr ⟨rfl, rfl, rfl⟩)))) (hb hby dmk1_34) hr, hrun, hended, _, _, rfl, ?_, hCe, hW.1, hW.2.1, hW.2.2.1, hW.2.2.2.mono (by decide) (by decide)⟩
  show Qmk1 Z c0 c1 wc h0 n0 _ T17.heap _
  rw [e17]
  exact ⟨b1, rfl, N17, K17, ⟨b17, kb17, G17_0, G17_1, G17_2, by rw [own_vs1]; exact G17_3⟩, gf1⟩
theorem dmk2_0 : decode method_2_code 0 = .ok (.iload_n 0, 1) := by decide +kernel
theorem dmk2_1 : decode method_2_code 1 = .ok (.ifCond .ne 14, 3) := by decide +kernel
theorem dmk2_15 : decode method_2_code 15 = .ok (.iload_n 0, 1) := by decide +kernel
theorem dmk2_16 : decode method_2_code 16 = .ok (.iconst 1, 1) := by decide +kernel
theorem dmk2_17 : decode method_2_code 17 = .ok (.if_icmp .ne 18, 3) := by decide +kernel
theorem dmk2_35 : decode method_2_code 35 = .ok (.new 7, 3) := by decide +kernel
theorem dmk2_38 : decode method_2_code 38 = .ok (.dup, 1) := by decide +kernel
theorem dmk2_39 : decode method_2_code 39 = .ok (.iconst 2, 1) := by decide +kernel
theorem dmk2_40 : decode method_2_code 40 = .ok (.newarray .char, 2) := by decide +kernel
theorem dmk2_42 : decode method_2_code 42 = .ok (.dup, 1) := by decide +kernel
theorem dmk2_43 : decode method_2_code 43 = .ok (.iconst 0, 1) := by decide +kernel
theorem dmk2_44 : decode method_2_code 44 = .ok (.iload_n 1, 1) := by decide +kernel
theorem dmk2_45 : decode method_2_code 45 = .ok (.castore, 1) := by decide +kernel
theorem dmk2_46 : decode method_2_code 46 = .ok (.dup, 1) := by decide +kernel
theorem dmk2_47 : decode method_2_code 47 = .ok (.iconst 1, 1) := by decide +kernel
theorem dmk2_48 : decode method_2_code 48 = .ok (.iload_n 2, 1) := by decide +kernel
theorem dmk2_49 : decode method_2_code 49 = .ok (.castore, 1) := by decide +kernel
theorem dmk2_50 : decode method_2_code 50 = .ok (.invokespecial 9, 3) := by decide +kernel
theorem dmk2_53 : decode method_2_code 53 = .ok (.areturn, 1) := by decide +kernel
theorem pn_mk2 : plainName "com/example/demarcation/demarcation/SavepointNameMayMatchPinLaw" = true := by first | (simp [plainName, overriddenIn]; done) | decide +kernel
theorem ef_mk2 (m : MethodId) (x0 : Int32) (x1 : Int32) (x2 : Int32) : entryFrame m #[(.int x0), (.int x1), (.int x2)] 3 = mkF m 0 #[.val (.int x0), .val (.int x1), .val (.int x2)] [] := by first | (simp [entryFrame, mkF, argsToLocals, Value.category]; done) | rfl
def Qmk2 (Z : State) (c0 : Int32) (c1 : Int32) (wc : Int32) (h0 : Heap) (n0 : Nat) (v : Option Value) (h : Heap) (L : List Loc) : Prop := ∃ b : Addr, v = some (.ref b) ∧ Fr n0 L ∧ Keep h0 h [] ∧ own_S Z h b (2 : Int32) c0 c1 ∧ h0.size ≤ b
set_option maxRecDepth 65536 in
set_option maxHeartbeats 40000000 in
theorem rmmk2 (l : Launch) (Z : State) (a0 : Array Value) (hw : ∀ d ∈ tables_1, d.before a0 Z = true) (ws : List Jvm.Cond) (c0 : Int32) (c1 : Int32) (wc : Int32) (h0 : Heap) (n0 : Nat) (Z0 : n0 ≤ h0.size) (F0 : Old Z n0 h0) (SC : Sta Z Z.heap "java/lang/String" "COMPACT_STRINGS" "Z" (.int wc)) (HWC : ¬ (wc = 0)) (hn0 : nar .char c0 = c0) (hn1 : nar .char c1 = c1) (hc0 : ¬ ((255 : Int32) < c0)) (hc1 : ¬ ((255 : Int32) < c1)) :
    MetFree l (⟨"com/example/demarcation/demarcation/SavepointNameMayMatchPinLaw", "mk", "(ICC)Ljava/lang/String;"⟩ : MethodName) (head1 (Jvm.Cond.code (⟨"com/example/demarcation/demarcation/SavepointNameMayMatchPinLaw", "mk", "(ICC)Ljava/lang/String;"⟩ : MethodName) method_2_code 3 (some (.object "java/lang/String")) :: ws) ({ frames := 4, cells := 6, slots := 16, locals := 75 } : Room)) (fun a U => a = #[(.int (2 : Int32)), (.int c0), (.int c1)] ∧ Z.Warmed39 U.vm ∧ U.heap = h0 ∧ CHv Z own_EL U.vm h0) (fun _ _ _ _ _ => True) (fun _ U o U' => ∃ v L, o = .returned v ∧ Qmk2 Z c0 c1 wc h0 n0 v U'.heap L ∧ CHr Z own_EL U.vm U.heap U'.vm U'.heap ∧ ReturnedEndW U o U' L ({ frames := 4, cells := 6, slots := 16, locals := 75 } : Room).cells ({ frames := 4, cells := 6, slots := 16, locals := 75 } : Room).slots) := by
  refine MetFree.of_bodySF (plainFor_of_name pn_mk2) hisR ?_
  intro p e s m args below meth c s₁ Bd hml0 hP hK
  obtain ⟨rfl, hZ, hh, hCH⟩ := hP
  have hx := Bd.exec
  have hby := Bd.bytes
  have hml : c.maxLocals = 3 := hml0
  have hown : s.vm.findClass "com/example/demarcation/demarcation/SavepointNameMayMatchPinLaw" = some m.cls := findClass_of_methodNamed Bd.named
  have hnm := (name_of_methodNamed Bd.named Bd.method).1
  have X0 : Stand p l e ({ frames := 4, cells := 6, slots := 16, locals := 75 } : Room) s m #[(.int (2 : Int32)), (.int c0), (.int c1)] below meth c s₁ [] 0 0 := Stand.of_body Bd
  have e0 : s₁.heap = h0 := by rw [← hh, Bd.state]; rfl
  have N0 := Fr.nil n0
  have hZ0 := hZ
  have hown0 := hown
  have hS : s.Since s.vm 0 := (State.WarmedH.refl s).since 0
  have hk : 0 ≤ h0.size := Nat.zero_le _
  have hR : CHr Z own_EL s.vm h0 s.vm h0 := CHr.refl hCH
  show own_R p.tables e below (own_PH Z s (Qmk2 Z c0 c1 wc h0 n0) ({ frames := 4, cells := 6, slots := 16, locals := 75 } : Room).cells ({ frames := 4, cells := 6, slots := 16, locals := 75 } : Room).slots) (s₁.setTop (entryFrame m #[(.int (2 : Int32)), (.int c0), (.int c1)] 3))
  refine own_f s₁ (mkF m 0 #[.val (.int (2 : Int32)), .val (.int c0), .val (.int c1)] []) (fun t k => castTop (ef_mk2 m (2 : Int32) c0 c1) k) ?_
  refine own_f s₁ (mkF m 1 #[.val (.int (2 : Int32)), .val (.int c0), .val (.int c1)] [(.int (2 : Int32))]) (fun t k => XS.iloadN X0.here hx rfl (hb hby dmk2_0) rfl k) ?_
  refine own_f s₁ (mkF m 15 #[.val (.int (2 : Int32)), .val (.int c0), .val (.int c1)] []) (fun t k => XS.ifYes X0.here hx rfl (pc0 := 1) (pc' := 15) rfl (hb hby dmk2_1) rfl (XT.i0_ne_t (by decide)) (by decide) (by decide) k) ?_
  refine own_f s₁ (mkF m 16 #[.val (.int (2 : Int32)), .val (.int c0), .val (.int c1)] [(.int (2 : Int32))]) (fun t k => XS.iloadN X0.here hx rfl (hb hby dmk2_15) rfl k) ?_
  refine own_f s₁ (mkF m 17 #[.val (.int (2 : Int32)), .val (.int c0), .val (.int c1)] [(.int (1 : Int32)), (.int (2 : Int32))]) (fun t k => XT.iconstV X0.here hx rfl (1 : Int32) (hb hby dmk2_16) (by decide) k) ?_
  refine own_f s₁ (mkF m 35 #[.val (.int (2 : Int32)), .val (.int c0), .val (.int c1)] []) (fun t k => XS.icmpYes X0.here hx rfl (pc0 := 17) (pc' := 35) rfl (hb hby dmk2_17) rfl (XT.ii_ne_t (by decide)) (by decide) (by decide) k) ?_
  obtain ⟨T1, h1, X1, e1, E1, A1, D1, U1, st1⟩ := newO X0 hx hZ hown (own_w hw 8 rfl) (own_w hw 9 rfl) (own_w hw 10 rfl) e0 (g := (mkF m 35 #[.val (.int (2 : Int32)), .val (.int c0), .val (.int c1)] [])) rfl (hb hby dmk2_35) (by decide) (by decide)
  obtain ⟨b1, g1⟩ : ∃ z, z = h0.size := ⟨_, rfl⟩
  rw [← g1] at A1 D1 st1
  have ge1 : n0 ≤ b1 := by rw [g1]; exact Z0
  have gf1 : h0.size ≤ b1 := by rw [g1]; exact (Keep.refl h0 []).1
  have Zs1 : n0 ≤ h1.size := Nat.le_trans Z0 E1.1
  have hk := Nat.le_trans hk E1.1
  have F_2 := F0.ext E1
  have hR := hR.trans (CHr.ext E1 hR.1)
  have K1 : Keep h0 h1 [] := (Keep.refl h0 []).ext E1
  have F_3 : Fld Z h1 b1 "java/lang/String" "value" "[B" .null := D1 (Or.inr (own_w hw 24 rfl)) (ty := (.array .byte)) (by decide)
  have F_4 : Fld Z h1 b1 "java/lang/String" "coder" "B" (.int 0) := D1 (Or.inr (own_w hw 25 rfl)) (ty := .byte) (by decide)
  refine own_f T1 (mkF m 38 #[.val (.int (2 : Int32)), .val (.int c0), .val (.int c1)] [(.ref b1)]) st1 ?_
  refine own_f T1 (mkF m 39 #[.val (.int (2 : Int32)), .val (.int c0), .val (.int c1)] [(.ref b1), (.ref b1)]) (fun t k => XS.dup X1.here hx rfl (hb hby dmk2_38) rfl rfl k) ?_
  refine own_f T1 (mkF m 40 #[.val (.int (2 : Int32)), .val (.int c0), .val (.int c1)] [(.int (2 : Int32)), (.ref b1), (.ref b1)]) (fun t k => XT.iconstV X1.here hx rfl (2 : Int32) (hb hby dmk2_39) (by decide) k) ?_
  obtain ⟨T5, h5, kA5, X5, e5, E5, A5, st5⟩ := newP X1 hx hZ (own_w hw 11 rfl) e1 (g := (mkF m 40 #[.val (.int (2 : Int32)), .val (.int c0), .val (.int c1)] [(.int (2 : Int32)), (.ref b1), (.ref b1)])) rfl (hb hby dmk2_40) rfl (by decide) (cap := 2) (by decide) (by decide) (by decide) (by decide)
  obtain ⟨b5, g5⟩ : ∃ z, z = h1.size := ⟨_, rfl⟩
  rw [← g5] at A5 st5
  have ne5_b1 : b1 ≠ b5 := by rw [g5]; exact Nat.ne_of_lt A1.lt
  have ge5 : n0 ≤ b5 := by rw [g5]; exact Zs1
  have gf5 : h0.size ≤ b5 := by rw [g5]; exact K1.1
  have Zs5 : n0 ≤ h5.size := Nat.le_trans Zs1 E5.1
  have hk := Nat.le_trans hk E5.1
  have F_6 := F_2.ext E5
  have F_7 := A1.ext E5
  have F_8 := F_3.ext E5
  have F_9 := F_4.ext E5
  have hR := hR.trans (CHr.ext E5 hR.1)
  have K5 : Keep h0 h5 [] := K1.ext E5
  have F_10 : Arv Z h5 b5 kA5 .char (2 : Int32) [.int 0, .int 0] (.int 0) := own_arvnew 2 A5 (by decide)
  refine own_f T5 (mkF m 42 #[.val (.int (2 : Int32)), .val (.int c0), .val (.int c1)] [(.ref b5), (.ref b1), (.ref b1)]) st5 ?_
  refine own_f T5 (mkF m 43 #[.val (.int (2 : Int32)), .val (.int c0), .val (.int c1)] [(.ref b5), (.ref b5), (.ref b1), (.ref b1)]) (fun t k => XS.dup X5.here hx rfl (hb hby dmk2_42) rfl rfl k) ?_
  refine own_f T5 (mkF m 44 #[.val (.int (2 : Int32)), .val (.int c0), .val (.int c1)] [(.int (0 : Int32)), (.ref b5), (.ref b5), (.ref b1), (.ref b1)]) (fun t k => XT.iconstV X5.here hx rfl (0 : Int32) (hb hby dmk2_43) (by decide) k) ?_
  refine own_f T5 (mkF m 45 #[.val (.int (2 : Int32)), .val (.int c0), .val (.int c1)] [(.int c0), (.int (0 : Int32)), (.ref b5), (.ref b5), (.ref b1), (.ref b1)]) (fun t k => XS.iloadN X5.here hx rfl (hb hby dmk2_44) rfl k) ?_
  obtain ⟨cl11, Ar11, q111, Sz11, q311, Hs11, Gs11⟩ := id F_10
  obtain ⟨T11, h11, X11, e11, W11, st11⟩ := stC X5 hx hZ e5 Ar11 (j := (0 : Int32)) (inb_of Sz11 ⟨by decide, by decide⟩) (g := (mkF m 45 #[.val (.int (2 : Int32)), .val (.int c0), .val (.int c1)] [(.int c0), (.int (0 : Int32)), (.ref b5), (.ref b5), (.ref b1), (.ref b1)])) rfl rfl (hb hby dmk2_45)
  have N11 := Fr.snoc X11 N0 ge5
  have Zs11 : n0 ≤ h11.size := by rw [W11.size]; exact Zs5
  have hk := Nat.le_trans hk (Nat.le_of_eq W11.size.symm)
  have K11 : Keep h0 h11 [] := K5.wr W11 (Or.inr gf5)
  have sfx : Safe Z own_EL s.vm h5 b5 := (Safe.arv hZ.alike F_10 (by decide))
  have F_12 := F_6.wr W11 ge5
  have F_13 := F_7.wr W11
  have F_14 := F_8.other W11 (Or.inl ne5_b1)
  have F_15 := F_9.other W11 (Or.inl ne5_b1)
  have F_16 : Arv Z h11 b5 kA5 .char (2 : Int32) [.int c0, .int 0] (.int 0) := Arv.set Ar11 q111 Sz11 q311 Hs11 Gs11 (by rw [← (hn0 : nar .char c0 = c0)]; exact fits_nar_char _) (by rw [(hn0 : nar .char c0 = c0)] at W11; exact W11) 0 (by decide) (by simp)
  have hR := hR.trans (CHr.wr W11 sfx hR.1)
  refine own_f T11 (mkF m 46 #[.val (.int (2 : Int32)), .val (.int c0), .val (.int c1)] [(.ref b5), (.ref b1), (.ref b1)]) st11 ?_
  refine own_f T11 (mkF m 47 #[.val (.int (2 : Int32)), .val (.int c0), .val (.int c1)] [(.ref b5), (.ref b5), (.ref b1), (.ref b1)]) (fun t k => XS.dup X11.here hx rfl (hb hby dmk2_46) rfl rfl k) ?_
  refine own_f T11 (mkF m 48 #[.val (.int (2 : Int32)), .val (.int c0), .val (.int c1)] [(.int (1 : Int32)), (.ref b5), (.ref b5), (.ref b1), (.ref b1)]) (fun t k => XT.iconstV X11.here hx rfl (1 : Int32) (hb hby dmk2_47) (by decide) k) ?_
  refine own_f T11 (mkF m 49 #[.val (.int (2 : Int32)), .val (.int c0), .val (.int c1)] [(.int c1), (.int (1 : Int32)), (.ref b5), (.ref b5), (.ref b1), (.ref b1)]) (fun t k => XS.iloadN X11.here hx rfl (hb hby dmk2_48) rfl k) ?_
  obtain ⟨cl17, Ar17, q117, Sz17, q317, Hs17, Gs17⟩ := id F_16
  obtain ⟨T17, h17, X17, e17, W17, st17⟩ := stC X11 hx hZ e11 Ar17 (j := (1 : Int32)) (inb_of Sz17 ⟨by decide, by decide⟩) (g := (mkF m 49 #[.val (.int (2 : Int32)), .val (.int c0), .val (.int c1)] [(.int c1), (.int (1 : Int32)), (.ref b5), (.ref b5), (.ref b1), (.ref b1)])) rfl rfl (hb hby dmk2_49)
  have N17 := Fr.snoc X17 N11 ge5
  have Zs17 : n0 ≤ h17.size := by rw [W17.size]; exact Zs11
  have hk := Nat.le_trans hk (Nat.le_of_eq W17.size.symm)
  have K17 : Keep h0 h17 [] := K11.wr W17 (Or.inr gf5)
  have sfx : Safe Z own_EL s.vm h11 b5 := (Safe.arv hZ.alike F_16 (by decide))
  have F_18 := F_12.wr W17 ge5
  have F_19 := F_13.wr W17
  have F_20 := F_14.other W17 (Or.inl ne5_b1)
  have F_21 := F_15.other W17 (Or.inl ne5_b1)
  have F_22 : Arv Z h17 b5 kA5 .char (2 : Int32) [.int c0, .int c1] (.int 0) := Arv.set Ar17 q117 Sz17 q317 Hs17 Gs17 (by rw [← (hn1 : nar .char c1 = c1)]; exact fits_nar_char _) (by rw [(hn1 : nar .char c1 = c1)] at W17; exact W17) 1 (by decide) (by simp)
  have hR := hR.trans (CHr.wr W17 sfx hR.1)
  refine own_f T17 (mkF m 50 #[.val (.int (2 : Int32)), .val (.int c0), .val (.int c1)] [(.ref b5), (.ref b1), (.ref b1)]) st17 ?_
  obtain ⟨_, _, ⟨T23, Lq23, kq_23, nq_23⟩, -, X23, ⟨Lc23, hQ23, lq23, yq23, zq23⟩, st23⟩ := X17.specialBack hx (y := (⟨"java/lang/String", "<init>", "([C)V"⟩ : MethodName)) rfl hown (mvT hZ (own_w hw 12 rfl)) (mvT hZ (own_w hw 13 rfl)) (mvT hZ (own_w hw 14 rfl)) (by decide) (backOf (W := 1) (rms22 l Z a0 hw [] b1 b5 _ _ _ _ _ _ h17 n0 Zs17 F_18 F_19 F_20 F_21 F_22 ge1 SC HWC (Ne.symm ne5_b1) hc0 hc1) hZ (own_w hw 14 rfl) (own_w hw 10 rfl) (by decide) (by decide)) (g := (mkF m 50 #[.val (.int (2 : Int32)), .val (.int c0), .val (.int c1)] [(.ref b5), (.ref b1), (.ref b1)])) rfl (by rw [hml]; rfl) (Steps.refl _) (a := b1) (argsL := [(.ref b5)]) (rest := [(.ref b1)]) (lenOf pd__C_V rfl) rfl (by show 2 * 0 + _ ≤ _; exact Nat.le_of_eq rfl) (hb hby dmk2_50) (fun _ _ => ⟨rfl, e17, (by decide : 0 + 1 + 1 + 1 ≤ _), (by decide : 0 + 4 + 2 + 2 ≤ _)⟩)
  dsimp only [Pt.U, Pt.locs, Pt.cells, Pt.slots] at X23 lq23 yq23 zq23 st23 hQ23
  subst lq23 yq23 zq23
  obtain ⟨h23, e23⟩ : ∃ z, T23.heap = z := ⟨_, rfl⟩
  rw [e23] at hQ23
  unfold Qs22 at hQ23
  obtain ⟨b23, kb23, rfl, Nq23, qh23, G23_0, G23_1, G23_2, G23_3, H23_0⟩ := hQ23
  have N23 := Fr.app N17 Nq23
  have Zs23 : n0 ≤ h23.size := Nat.le_trans Zs17 qh23.1
  have hk := Nat.le_trans hk qh23.1
  have hsf : ∀ x ∈ ([b1] : List Addr), Safe Z own_EL s.vm h17 x := (sfS (own_safe hZ.alike F_19 F_20) sf0)
  have F_24 := F_18.keep qh23 (allS ge1 all0)
  have F_25 := F_22.keep qh23 (ninS (Ne.symm ne5_b1) nin0)
  have hR := hR.trans (CHr.keep qh23 hsf hR.1)
  have K23 : Keep h0 h23 [] := K17.trans qh23 (allS (Or.inr gf1) all0)
  have ne23_b1 : b1 ≠ b23 := Nat.ne_of_lt (Nat.lt_of_lt_of_le F_19.lt H23_0)
  have ne23_b5 : b5 ≠ b23 := Nat.ne_of_lt (Nat.lt_of_lt_of_le F_22.lt H23_0)
  have ge23 : n0 ≤ b23 := Nat.le_trans Zs17 H23_0
  have gf23 : h0.size ≤ b23 := Nat.le_trans K17.1 H23_0
  refine own_g T23 (mkF m 53 #[.val (.int (2 : Int32)), .val (.int c0), .val (.int c1)] [(.ref b1)]) st23 ?_
  obtain ⟨fs, hr, hrun, hended, hW⟩ := Stand.leaveW (s := s) (vm₁ := s.vm) X23 hS (by rw [e23]; exact hk) (v := some (.ref b1)) (fun h => by rw [Bd.returns] at h; cases h)
  have hCe : CHr Z own_EL s.vm s.heap (T23.setFrames fs).vm (T23.setFrames fs).heap := by show CHr Z own_EL s.vm s.heap T23.vm T23.heap; rw [hh, e23]; exact hR.trans (CHv.at (s := s) (vm0 := s.vm) X23 hZ (own_EW hw) hR.1)
  refine ⟨_, _, retOut X23 hx Bd.returns (by rfl) (Or.inr (Or.inr (Or.inr (Or.inr ⟨rfl, rfl, rfl⟩)))) (hb hby dmk2_53) hr, hrun, hended, _, _, rfl, ?_, hCe, hW.1, hW.2.1, hW.2.2.1, hW.2.2.2.mono (by decide) (by decide)⟩
  show Qmk2 Z c0 c1 wc h0 n0 _ T23.heap _
  rw [e23]
  exact ⟨b1, rfl, N23, K23, ⟨b23, kb23, G23_0, G23_1, G23_2, by rw [own_vs2]; exact G23_3⟩, gf1⟩
def Qmk (Z : State) (nn c0 c1 : Int32) (h0 : Heap) (n0 : Nat) (v : Option Value) (h : Heap) (L : List Loc) : Prop := ∃ b : Addr, v = some (.ref b) ∧ Fr n0 L ∧ Keep h0 h [] ∧ own_S Z h b nn c0 c1 ∧ h0.size ≤ b
theorem rmmk (l : Launch) (Z : State) (a0 : Array Value) (hw : ∀ d ∈ tables_1, d.before a0 Z = true) (ws : List Jvm.Cond) (nn c0 c1 wc : Int32) (h0 : Heap) (n0 : Nat) (Z0 : n0 ≤ h0.size) (F0 : Old Z n0 h0) (SC : Sta Z Z.heap "java/lang/String" "COMPACT_STRINGS" "Z" (.int wc)) (HWC : ¬ (wc = 0)) (hn : nn = 0 ∨ nn = 1 ∨ nn = 2) (B0 : own_B c0) (B1 : own_B c1) :
    MetFree l (⟨"com/example/demarcation/demarcation/SavepointNameMayMatchPinLaw", "mk", "(ICC)Ljava/lang/String;"⟩ : MethodName) (head1 (Jvm.Cond.code (⟨"com/example/demarcation/demarcation/SavepointNameMayMatchPinLaw", "mk", "(ICC)Ljava/lang/String;"⟩ : MethodName) method_2_code 3 (some (.object "java/lang/String")) :: ws) ({ frames := 4, cells := 6, slots := 16, locals := 75 } : Room)) (fun a U => a = #[(.int nn), (.int c0), (.int c1)] ∧ Z.Warmed39 U.vm ∧ U.heap = h0 ∧ CHv Z own_EL U.vm h0) (fun _ _ _ _ _ => True) (fun _ U o U' => ∃ v L, o = .returned v ∧ Qmk Z nn c0 c1 h0 n0 v U'.heap L ∧ CHr Z own_EL U.vm U.heap U'.vm U'.heap ∧ ReturnedEndW U o U' L ({ frames := 4, cells := 6, slots := 16, locals := 75 } : Room).cells ({ frames := 4, cells := 6, slots := 16, locals := 75 } : Room).slots) := by
  rcases hn with rfl | rfl | rfl
  · exact rmmk0 l Z a0 hw ws c0 c1 wc h0 n0 Z0 F0 SC HWC B0.nar B1.nar B0.2 B1.2
  · exact rmmk1 l Z a0 hw ws c0 c1 wc h0 n0 Z0 F0 SC HWC B0.nar B1.nar B0.2 B1.2
  · exact rmmk2 l Z a0 hw ws c0 c1 wc h0 n0 Z0 F0 SC HWC B0.nar B1.nar B0.2 B1.2
theorem dl1x_0 : decode jdk_43_method_13_code 0 = .ok (.aload_n 0, 1) := by decide +kernel
theorem dl1x_1 : decode jdk_43_method_13_code 1 = .ok (.arraylength, 1) := by decide +kernel
theorem dl1x_2 : decode jdk_43_method_13_code 2 = .ok (.aload_n 1, 1) := by decide +kernel
theorem dl1x_3 : decode jdk_43_method_13_code 3 = .ok (.arraylength, 1) := by decide +kernel
theorem dl1x_4 : decode jdk_43_method_13_code 4 = .ok (.if_icmp .ne 30, 3) := by decide +kernel
theorem dl1x_34 : decode jdk_43_method_13_code 34 = .ok (.iconst 0, 1) := by decide +kernel
theorem dl1x_35 : decode jdk_43_method_13_code 35 = .ok (.ireturn, 1) := by decide +kernel
theorem pn_l1x : plainName "java/lang/StringLatin1" = true := by first | (simp [plainName, overriddenIn]; done) | decide +kernel
theorem ef_l1x (m : MethodId) (x0 : Addr) (x1 : Addr) : entryFrame m #[(.ref x0), (.ref x1)] 3 = mkF m 0 #[.val (.ref x0), .val (.ref x1), .unset] [] := by first | (simp [entryFrame, mkF, argsToLocals, Value.category]; done) | rfl
def Ql1x (Z : State) (a1 : Addr) (a2 : Addr) (k1 : ClassId) (k2 : ClassId) (z1 : Int32) (z2 : Int32) (v1 : List Value) (v2 : List Value) (h0 : Heap) (n0 : Nat) (v : Option Value) (h : Heap) (L : List Loc) : Prop := v = some (.int (0 : Int32)) ∧ Fr n0 L ∧ h = h0
set_option maxRecDepth 65536 in
set_option maxHeartbeats 40000000 in
theorem rml1x (l : Launch) (Z : State) (a0 : Array Value) (hw : ∀ d ∈ tables_1, d.before a0 Z = true) (ws : List Jvm.Cond) (a1 : Addr) (a2 : Addr) (k1 : ClassId) (k2 : ClassId) (z1 : Int32) (z2 : Int32) (v1 : List Value) (v2 : List Value) (h0 : Heap) (n0 : Nat) (Z0 : n0 ≤ h0.size) (F0 : Arv Z h0 a1 k1 .byte z1 v1 (.int 0)) (F1 : Arv Z h0 a2 k2 .byte z2 v2 (.int 0)) (hz : ¬ (z1 = z2)) :
    MetFree l (⟨"java/lang/StringLatin1", "equals", "([B[B)Z"⟩ : MethodName) (head1 (Jvm.Cond.code (⟨"java/lang/StringLatin1", "equals", "([B[B)Z"⟩ : MethodName) jdk_43_method_13_code 3 (some .boolean) :: ws) ({ frames := 0, cells := 0, slots := 0, locals := 0 } : Room)) (fun a U => a = #[(.ref a1), (.ref a2)] ∧ Z.Warmed39 U.vm ∧ U.heap = h0) (fun _ _ _ _ _ => True) (fun _ U o U' => ∃ v L, o = .returned v ∧ Ql1x Z a1 a2 k1 k2 z1 z2 v1 v2 h0 n0 v U'.heap L ∧ FrameEnd U o U' L ({ frames := 0, cells := 0, slots := 0, locals := 0 } : Room).cells ({ frames := 0, cells := 0, slots := 0, locals := 0 } : Room).slots) := by
  refine MetFree.of_bodySF (plainFor_of_name pn_l1x) hisR ?_
  intro p e s m args below meth c s₁ Bd hml0 hP hK
  obtain ⟨rfl, hZ, hh⟩ := hP
  have hx := Bd.exec
  have hby := Bd.bytes
  have hml : c.maxLocals = 3 := hml0
  have hown : s.vm.findClass "java/lang/StringLatin1" = some m.cls := findClass_of_methodNamed Bd.named
  have hnm := (name_of_methodNamed Bd.named Bd.method).1
  have X0 : Stand p l e ({ frames := 0, cells := 0, slots := 0, locals := 0 } : Room) s m #[(.ref a1), (.ref a2)] below meth c s₁ [] 0 0 := Stand.of_body Bd
  have e0 : s₁.heap = h0 := by rw [← hh, Bd.state]; rfl
  have N0 := Fr.nil n0
  show own_R p.tables e below (own_P s (Ql1x Z a1 a2 k1 k2 z1 z2 v1 v2 h0 n0) ({ frames := 0, cells := 0, slots := 0, locals := 0 } : Room).cells ({ frames := 0, cells := 0, slots := 0, locals := 0 } : Room).slots) (s₁.setTop (entryFrame m #[(.ref a1), (.ref a2)] 3))
  refine own_f s₁ (mkF m 0 #[.val (.ref a1), .val (.ref a2), .unset] []) (fun t k => castTop (ef_l1x m a1 a2) k) ?_
  refine own_f s₁ (mkF m 1 #[.val (.ref a1), .val (.ref a2), .unset] [(.ref a1)]) (fun t k => XS.aloadN X0.here hx rfl (hb hby dl1x_0) rfl rfl k) ?_
  refine own_f s₁ (mkF m 2 #[.val (.ref a1), .val (.ref a2), .unset] [(.int z1)]) (fun t k => own_len X0 hx hZ e0 F0 (g := (mkF m 1 #[.val (.ref a1), .val (.ref a2), .unset] [(.ref a1)])) rfl rfl (hb hby dl1x_1) k) ?_
  refine own_f s₁ (mkF m 3 #[.val (.ref a1), .val (.ref a2), .unset] [(.ref a2), (.int z1)]) (fun t k => XS.aloadN X0.here hx rfl (hb hby dl1x_2) rfl rfl k) ?_
  refine own_f s₁ (mkF m 4 #[.val (.ref a1), .val (.ref a2), .unset] [(.int z2), (.int z1)]) (fun t k => own_len X0 hx hZ e0 F1 (g := (mkF m 3 #[.val (.ref a1), .val (.ref a2), .unset] [(.ref a2), (.int z1)])) rfl rfl (hb hby dl1x_3) k) ?_
  refine own_f s₁ (mkF m 34 #[.val (.ref a1), .val (.ref a2), .unset] []) (fun t k => XS.icmpYes X0.here hx rfl (pc0 := 4) (pc' := 34) rfl (hb hby dl1x_4) rfl (XT.ii_ne_t hz) (by decide) (by decide) k) ?_
  refine own_f s₁ (mkF m 35 #[.val (.ref a1), .val (.ref a2), .unset] [(.int (0 : Int32))]) (fun t k => XT.iconstV X0.here hx rfl (0 : Int32) (hb hby dl1x_34) (by decide) k) ?_
  obtain ⟨fs, hr, hrun, hended, hW, hsame⟩ := X0.leave (v := some (.int (0 : Int32))) (fun h => by rw [Bd.returns] at h; cases h)
  refine ⟨_, _, retN X0 hx (t := .boolean) Bd.returns (by simp) (hb hby dl1x_35) hr, hrun, hended, _, _, rfl, ?_, ⟨_, rfl⟩, hW, hsame.mono (by decide) (by decide)⟩
  show Ql1x Z a1 a2 k1 k2 z1 z2 v1 v2 h0 n0 _ s₁.heap _
  rw [e0]
  exact ⟨rfl, N0, rfl⟩
theorem dl10_0 : decode jdk_43_method_13_code 0 = .ok (.aload_n 0, 1) := by decide +kernel
theorem dl10_1 : decode jdk_43_method_13_code 1 = .ok (.arraylength, 1) := by decide +kernel
theorem dl10_2 : decode jdk_43_method_13_code 2 = .ok (.aload_n 1, 1) := by decide +kernel
theorem dl10_3 : decode jdk_43_method_13_code 3 = .ok (.arraylength, 1) := by decide +kernel
theorem dl10_4 : decode jdk_43_method_13_code 4 = .ok (.if_icmp .ne 30, 3) := by decide +kernel
theorem dl10_7 : decode jdk_43_method_13_code 7 = .ok (.iconst 0, 1) := by decide +kernel
theorem dl10_8 : decode jdk_43_method_13_code 8 = .ok (.istore_n 2, 1) := by decide +kernel
theorem dl10_9 : decode jdk_43_method_13_code 9 = .ok (.iload_n 2, 1) := by decide +kernel
theorem dl10_10 : decode jdk_43_method_13_code 10 = .ok (.aload_n 0, 1) := by decide +kernel
theorem dl10_11 : decode jdk_43_method_13_code 11 = .ok (.arraylength, 1) := by decide +kernel
theorem dl10_12 : decode jdk_43_method_13_code 12 = .ok (.if_icmp .ge 20, 3) := by decide +kernel
theorem dl10_32 : decode jdk_43_method_13_code 32 = .ok (.iconst 1, 1) := by decide +kernel
theorem dl10_33 : decode jdk_43_method_13_code 33 = .ok (.ireturn, 1) := by decide +kernel
theorem pn_l10 : plainName "java/lang/StringLatin1" = true := by first | (simp [plainName, overriddenIn]; done) | decide +kernel
theorem ef_l10 (m : MethodId) (x0 : Addr) (x1 : Addr) : entryFrame m #[(.ref x0), (.ref x1)] 3 = mkF m 0 #[.val (.ref x0), .val (.ref x1), .unset] [] := by first | (simp [entryFrame, mkF, argsToLocals, Value.category]; done) | rfl
def Ql10 (Z : State) (a1 : Addr) (a2 : Addr) (k1 : ClassId) (k2 : ClassId) (h0 : Heap) (n0 : Nat) (v : Option Value) (h : Heap) (L : List Loc) : Prop := v = some (.int (own_b (True))) ∧ Fr n0 L ∧ h = h0
set_option maxRecDepth 65536 in
set_option maxHeartbeats 40000000 in
theorem rml10 (l : Launch) (Z : State) (a0 : Array Value) (hw : ∀ d ∈ tables_1, d.before a0 Z = true) (ws : List Jvm.Cond) (a1 : Addr) (a2 : Addr) (k1 : ClassId) (k2 : ClassId) (h0 : Heap) (n0 : Nat) (Z0 : n0 ≤ h0.size) (F0 : Arv Z h0 a1 k1 .byte (0 : Int32) [] (.int 0)) (F1 : Arv Z h0 a2 k2 .byte (0 : Int32) [] (.int 0)) :
    MetFree l (⟨"java/lang/StringLatin1", "equals", "([B[B)Z"⟩ : MethodName) (head1 (Jvm.Cond.code (⟨"java/lang/StringLatin1", "equals", "([B[B)Z"⟩ : MethodName) jdk_43_method_13_code 3 (some .boolean) :: ws) ({ frames := 0, cells := 0, slots := 0, locals := 0 } : Room)) (fun a U => a = #[(.ref a1), (.ref a2)] ∧ Z.Warmed39 U.vm ∧ U.heap = h0) (fun _ _ _ _ _ => True) (fun _ U o U' => ∃ v L, o = .returned v ∧ Ql10 Z a1 a2 k1 k2 h0 n0 v U'.heap L ∧ FrameEnd U o U' L ({ frames := 0, cells := 0, slots := 0, locals := 0 } : Room).cells ({ frames := 0, cells := 0, slots := 0, locals := 0 } : Room).slots) := by
  refine MetFree.of_bodySF (plainFor_of_name pn_l10) hisR ?_
  intro p e s m args below meth c s₁ Bd hml0 hP hK
  obtain ⟨rfl, hZ, hh⟩ := hP
  have hx := Bd.exec
  have hby := Bd.bytes
  have hml : c.maxLocals = 3 := hml0
  have hown : s.vm.findClass "java/lang/StringLatin1" = some m.cls := findClass_of_methodNamed Bd.named
  have hnm := (name_of_methodNamed Bd.named Bd.method).1
  have X0 : Stand p l e ({ frames := 0, cells := 0, slots := 0, locals := 0 } : Room) s m #[(.ref a1), (.ref a2)] below meth c s₁ [] 0 0 := Stand.of_body Bd
  have e0 : s₁.heap = h0 := by rw [← hh, Bd.state]; rfl
  have N0 := Fr.nil n0
  show own_R p.tables e below (own_P s (Ql10 Z a1 a2 k1 k2 h0 n0) ({ frames := 0, cells := 0, slots := 0, locals := 0 } : Room).cells ({ frames := 0, cells := 0, slots := 0, locals := 0 } : Room).slots) (s₁.setTop (entryFrame m #[(.ref a1), (.ref a2)] 3))
  refine own_f s₁ (mkF m 0 #[.val (.ref a1), .val (.ref a2), .unset] []) (fun t k => castTop (ef_l10 m a1 a2) k) ?_
  refine own_f s₁ (mkF m 1 #[.val (.ref a1), .val (.ref a2), .unset] [(.ref a1)]) (fun t k => XS.aloadN X0.here hx rfl (hb hby dl10_0) rfl rfl k) ?_
  refine own_f s₁ (mkF m 2 #[.val (.ref a1), .val (.ref a2), .unset] [(.int (0 : Int32))]) (fun t k => own_len X0 hx hZ e0 F0 (g := (mkF m 1 #[.val (.ref a1), .val (.ref a2), .unset] [(.ref a1)])) rfl rfl (hb hby dl10_1) k) ?_
  refine own_f s₁ (mkF m 3 #[.val (.ref a1), .val (.ref a2), .unset] [(.ref a2), (.int (0 : Int32))]) (fun t k => XS.aloadN X0.here hx rfl (hb hby dl10_2) rfl rfl k) ?_
  refine own_f s₁ (mkF m 4 #[.val (.ref a1), .val (.ref a2), .unset] [(.int (0 : Int32)), (.int (0 : Int32))]) (fun t k => own_len X0 hx hZ e0 F1 (g := (mkF m 3 #[.val (.ref a1), .val (.ref a2), .unset] [(.ref a2), (.int (0 : Int32))])) rfl rfl (hb hby dl10_3) k) ?_
  refine own_f s₁ (mkF m 7 #[.val (.ref a1), .val (.ref a2), .unset] []) (fun t k => XS.icmpNo X0.here hx rfl (hb hby dl10_4) rfl (XT.ii_ne_f (by decide)) k) ?_
  refine own_f s₁ (mkF m 8 #[.val (.ref a1), .val (.ref a2), .unset] [(.int (0 : Int32))]) (fun t k => XT.iconstV X0.here hx rfl (0 : Int32) (hb hby dl10_7) (by decide) k) ?_
  refine own_f s₁ (mkF m 9 #[.val (.ref a1), .val (.ref a2), .val (.int (0 : Int32))] []) (fun t k => XS.istoreN X0.here hx rfl (hb hby dl10_8) rfl (l' := #[.val (.ref a1), .val (.ref a2), .val (.int (0 : Int32))]) rfl k) ?_
  refine own_f s₁ (mkF m 10 #[.val (.ref a1), .val (.ref a2), .val (.int (0 : Int32))] [(.int (0 : Int32))]) (fun t k => XS.iloadN X0.here hx rfl (hb hby dl10_9) rfl k) ?_
  refine own_f s₁ (mkF m 11 #[.val (.ref a1), .val (.ref a2), .val (.int (0 : Int32))] [(.ref a1), (.int (0 : Int32))]) (fun t k => XS.aloadN X0.here hx rfl (hb hby dl10_10) rfl rfl k) ?_
  refine own_f s₁ (mkF m 12 #[.val (.ref a1), .val (.ref a2), .val (.int (0 : Int32))] [(.int (0 : Int32)), (.int (0 : Int32))]) (fun t k => own_len X0 hx hZ e0 F0 (g := (mkF m 11 #[.val (.ref a1), .val (.ref a2), .val (.int (0 : Int32))] [(.ref a1), (.int (0 : Int32))])) rfl rfl (hb hby dl10_11) k) ?_
  refine own_f s₁ (mkF m 32 #[.val (.ref a1), .val (.ref a2), .val (.int (0 : Int32))] []) (fun t k => XS.icmpYes X0.here hx rfl (pc0 := 12) (pc' := 32) rfl (hb hby dl10_12) rfl (XT.ii_ge_t (by decide)) (by decide) (by decide) k) ?_
  refine own_f s₁ (mkF m 33 #[.val (.ref a1), .val (.ref a2), .val (.int (0 : Int32))] [(.int (1 : Int32))]) (fun t k => XT.iconstV X0.here hx rfl (1 : Int32) (hb hby dl10_32) (by decide) k) ?_
  obtain ⟨fs, hr, hrun, hended, hW, hsame⟩ := X0.leave (v := some (.int (1 : Int32))) (fun h => by rw [Bd.returns] at h; cases h)
  refine ⟨_, _, retN X0 hx (t := .boolean) Bd.returns (by simp) (hb hby dl10_33) hr, hrun, hended, _, _, rfl, ?_, ⟨_, rfl⟩, hW, hsame.mono (by decide) (by decide)⟩
  show Ql10 Z a1 a2 k1 k2 h0 n0 _ s₁.heap _
  rw [e0]
  exact ⟨by rw [own_b, if_pos trivial], N0, rfl⟩
theorem dl11_0 : decode jdk_43_method_13_code 0 = .ok (.aload_n 0, 1) := by decide +kernel
theorem dl11_1 : decode jdk_43_method_13_code 1 = .ok (.arraylength, 1) := by decide +kernel
theorem dl11_2 : decode jdk_43_method_13_code 2 = .ok (.aload_n 1, 1) := by decide +kernel
theorem dl11_3 : decode jdk_43_method_13_code 3 = .ok (.arraylength, 1) := by decide +kernel
theorem dl11_4 : decode jdk_43_method_13_code 4 = .ok (.if_icmp .ne 30, 3) := by decide +kernel
theorem dl11_7 : decode jdk_43_method_13_code 7 = .ok (.iconst 0, 1) := by decide +kernel
theorem dl11_8 : decode jdk_43_method_13_code 8 = .ok (.istore_n 2, 1) := by decide +kernel
theorem dl11_9 : decode jdk_43_method_13_code 9 = .ok (.iload_n 2, 1) := by decide +kernel
theorem dl11_10 : decode jdk_43_method_13_code 10 = .ok (.aload_n 0, 1) := by decide +kernel
theorem dl11_11 : decode jdk_43_method_13_code 11 = .ok (.arraylength, 1) := by decide +kernel
theorem dl11_12 : decode jdk_43_method_13_code 12 = .ok (.if_icmp .ge 20, 3) := by decide +kernel
theorem dl11_15 : decode jdk_43_method_13_code 15 = .ok (.aload_n 0, 1) := by decide +kernel
theorem dl11_16 : decode jdk_43_method_13_code 16 = .ok (.iload_n 2, 1) := by decide +kernel
theorem dl11_17 : decode jdk_43_method_13_code 17 = .ok (.baload, 1) := by decide +kernel
theorem dl11_18 : decode jdk_43_method_13_code 18 = .ok (.aload_n 1, 1) := by decide +kernel
theorem dl11_19 : decode jdk_43_method_13_code 19 = .ok (.iload_n 2, 1) := by decide +kernel
theorem dl11_20 : decode jdk_43_method_13_code 20 = .ok (.baload, 1) := by decide +kernel
theorem dl11_21 : decode jdk_43_method_13_code 21 = .ok (.if_icmp .eq 5, 3) := by decide +kernel
theorem dl11_24 : decode jdk_43_method_13_code 24 = .ok (.iconst 0, 1) := by decide +kernel
theorem dl11_25 : decode jdk_43_method_13_code 25 = .ok (.ireturn, 1) := by decide +kernel
theorem dl11_26 : decode jdk_43_method_13_code 26 = .ok (.iinc 2 1, 3) := by decide +kernel
theorem dl11_29 : decode jdk_43_method_13_code 29 = .ok (.goto (-20), 3) := by decide +kernel
theorem dl11_32 : decode jdk_43_method_13_code 32 = .ok (.iconst 1, 1) := by decide +kernel
theorem dl11_33 : decode jdk_43_method_13_code 33 = .ok (.ireturn, 1) := by decide +kernel
theorem pn_l11 : plainName "java/lang/StringLatin1" = true := by first | (simp [plainName, overriddenIn]; done) | decide +kernel
theorem ef_l11 (m : MethodId) (x0 : Addr) (x1 : Addr) : entryFrame m #[(.ref x0), (.ref x1)] 3 = mkF m 0 #[.val (.ref x0), .val (.ref x1), .unset] [] := by first | (simp [entryFrame, mkF, argsToLocals, Value.category]; done) | rfl
def Ql11 (Z : State) (a1 : Addr) (a2 : Addr) (k1 : ClassId) (k2 : ClassId) (x0 : Int32) (y0 : Int32) (h0 : Heap) (n0 : Nat) (v : Option Value) (h : Heap) (L : List Loc) : Prop := v = some (.int (own_b (x0 = y0))) ∧ Fr n0 L ∧ h = h0
set_option maxRecDepth 65536 in
set_option maxHeartbeats 40000000 in
theorem rml11 (l : Launch) (Z : State) (a0 : Array Value) (hw : ∀ d ∈ tables_1, d.before a0 Z = true) (ws : List Jvm.Cond) (a1 : Addr) (a2 : Addr) (k1 : ClassId) (k2 : ClassId) (x0 : Int32) (y0 : Int32) (h0 : Heap) (n0 : Nat) (Z0 : n0 ≤ h0.size) (F0 : Arv Z h0 a1 k1 .byte (1 : Int32) [.int x0] (.int 0)) (F1 : Arv Z h0 a2 k2 .byte (1 : Int32) [.int y0] (.int 0)) :
    MetFree l (⟨"java/lang/StringLatin1", "equals", "([B[B)Z"⟩ : MethodName) (head1 (Jvm.Cond.code (⟨"java/lang/StringLatin1", "equals", "([B[B)Z"⟩ : MethodName) jdk_43_method_13_code 3 (some .boolean) :: ws) ({ frames := 0, cells := 0, slots := 0, locals := 0 } : Room)) (fun a U => a = #[(.ref a1), (.ref a2)] ∧ Z.Warmed39 U.vm ∧ U.heap = h0) (fun _ _ _ _ _ => True) (fun _ U o U' => ∃ v L, o = .returned v ∧ Ql11 Z a1 a2 k1 k2 x0 y0 h0 n0 v U'.heap L ∧ FrameEnd U o U' L ({ frames := 0, cells := 0, slots := 0, locals := 0 } : Room).cells ({ frames := 0, cells := 0, slots := 0, locals := 0 } : Room).slots) := by
  refine MetFree.of_bodySF (plainFor_of_name pn_l11) hisR ?_
  intro p e s m args below meth c s₁ Bd hml0 hP hK
  obtain ⟨rfl, hZ, hh⟩ := hP
  have hx := Bd.exec
  have hby := Bd.bytes
  have hml : c.maxLocals = 3 := hml0
  have hown : s.vm.findClass "java/lang/StringLatin1" = some m.cls := findClass_of_methodNamed Bd.named
  have hnm := (name_of_methodNamed Bd.named Bd.method).1
  have X0 : Stand p l e ({ frames := 0, cells := 0, slots := 0, locals := 0 } : Room) s m #[(.ref a1), (.ref a2)] below meth c s₁ [] 0 0 := Stand.of_body Bd
  have e0 : s₁.heap = h0 := by rw [← hh, Bd.state]; rfl
  have N0 := Fr.nil n0
  show own_R p.tables e below (own_P s (Ql11 Z a1 a2 k1 k2 x0 y0 h0 n0) ({ frames := 0, cells := 0, slots := 0, locals := 0 } : Room).cells ({ frames := 0, cells := 0, slots := 0, locals := 0 } : Room).slots) (s₁.setTop (entryFrame m #[(.ref a1), (.ref a2)] 3))
  refine own_f s₁ (mkF m 0 #[.val (.ref a1), .val (.ref a2), .unset] []) (fun t k => castTop (ef_l11 m a1 a2) k) ?_
  refine own_f s₁ (mkF m 1 #[.val (.ref a1), .val (.ref a2), .unset] [(.ref a1)]) (fun t k => XS.aloadN X0.here hx rfl (hb hby dl11_0) rfl rfl k) ?_
  refine own_f s₁ (mkF m 2 #[.val (.ref a1), .val (.ref a2), .unset] [(.int (1 : Int32))]) (fun t k => own_len X0 hx hZ e0 F0 (g := (mkF m 1 #[.val (.ref a1), .val (.ref a2), .unset] [(.ref a1)])) rfl rfl (hb hby dl11_1) k) ?_
  refine own_f s₁ (mkF m 3 #[.val (.ref a1), .val (.ref a2), .unset] [(.ref a2), (.int (1 : Int32))]) (fun t k => XS.aloadN X0.here hx rfl (hb hby dl11_2) rfl rfl k) ?_
  refine own_f s₁ (mkF m 4 #[.val (.ref a1), .val (.ref a2), .unset] [(.int (1 : Int32)), (.int (1 : Int32))]) (fun t k => own_len X0 hx hZ e0 F1 (g := (mkF m 3 #[.val (.ref a1), .val (.ref a2), .unset] [(.ref a2), (.int (1 : Int32))])) rfl rfl (hb hby dl11_3) k) ?_
  refine own_f s₁ (mkF m 7 #[.val (.ref a1), .val (.ref a2), .unset] []) (fun t k => XS.icmpNo X0.here hx rfl (hb hby dl11_4) rfl (XT.ii_ne_f (by decide)) k) ?_
  refine own_f s₁ (mkF m 8 #[.val (.ref a1), .val (.ref a2), .unset] [(.int (0 : Int32))]) (fun t k => XT.iconstV X0.here hx rfl (0 : Int32) (hb hby dl11_7) (by decide) k) ?_
  refine own_f s₁ (mkF m 9 #[.val (.ref a1), .val (.ref a2), .val (.int (0 : Int32))] []) (fun t k => XS.istoreN X0.here hx rfl (hb hby dl11_8) rfl (l' := #[.val (.ref a1), .val (.ref a2), .val (.int (0 : Int32))]) rfl k) ?_
  refine own_f s₁ (mkF m 10 #[.val (.ref a1), .val (.ref a2), .val (.int (0 : Int32))] [(.int (0 : Int32))]) (fun t k => XS.iloadN X0.here hx rfl (hb hby dl11_9) rfl k) ?_
  refine own_f s₁ (mkF m 11 #[.val (.ref a1), .val (.ref a2), .val (.int (0 : Int32))] [(.ref a1), (.int (0 : Int32))]) (fun t k => XS.aloadN X0.here hx rfl (hb hby dl11_10) rfl rfl k) ?_
  refine own_f s₁ (mkF m 12 #[.val (.ref a1), .val (.ref a2), .val (.int (0 : Int32))] [(.int (1 : Int32)), (.int (0 : Int32))]) (fun t k => own_len X0 hx hZ e0 F0 (g := (mkF m 11 #[.val (.ref a1), .val (.ref a2), .val (.int (0 : Int32))] [(.ref a1), (.int (0 : Int32))])) rfl rfl (hb hby dl11_11) k) ?_
  refine own_f s₁ (mkF m 15 #[.val (.ref a1), .val (.ref a2), .val (.int (0 : Int32))] []) (fun t k => XS.icmpNo X0.here hx rfl (hb hby dl11_12) rfl (XT.ii_ge_f (by decide)) k) ?_
  refine own_f s₁ (mkF m 16 #[.val (.ref a1), .val (.ref a2), .val (.int (0 : Int32))] [(.ref a1)]) (fun t k => XS.aloadN X0.here hx rfl (hb hby dl11_15) rfl rfl k) ?_
  refine own_f s₁ (mkF m 17 #[.val (.ref a1), .val (.ref a2), .val (.int (0 : Int32))] [(.int (0 : Int32)), (.ref a1)]) (fun t k => XS.iloadN X0.here hx rfl (hb hby dl11_16) rfl k) ?_
  obtain ⟨cl4, Ar4, q14, Sz4, q34, Hs4, Gs4⟩ := id F0
  have hi4 := inb_of (j := (0 : Int32)) Sz4 ⟨by decide, by decide⟩
  refine own_f s₁ (mkF m 18 #[.val (.ref a1), .val (.ref a2), .val (.int (0 : Int32))] [(.int x0)]) (fun t k => X0.baloadBytes hx (j := (0 : Int32)) (v := (.int x0)) (by rw [e0]; exact Ar4.1) (State.isArrayOf_alike hZ.alike Ar4.2.1) Ar4.2.2 hi4 (Has.at Hs4 hi4 rfl) (g := (mkF m 17 #[.val (.ref a1), .val (.ref a2), .val (.int (0 : Int32))] [(.int (0 : Int32)), (.ref a1)])) rfl rfl (hb hby dl11_17) t k) ?_
  refine own_f s₁ (mkF m 19 #[.val (.ref a1), .val (.ref a2), .val (.int (0 : Int32))] [(.ref a2), (.int x0)]) (fun t k => XS.aloadN X0.here hx rfl (hb hby dl11_18) rfl rfl k) ?_
  refine own_f s₁ (mkF m 20 #[.val (.ref a1), .val (.ref a2), .val (.int (0 : Int32))] [(.int (0 : Int32)), (.ref a2), (.int x0)]) (fun t k => XS.iloadN X0.here hx rfl (hb hby dl11_19) rfl k) ?_
  obtain ⟨cl5, Ar5, q15, Sz5, q35, Hs5, Gs5⟩ := id F1
  have hi5 := inb_of (j := (0 : Int32)) Sz5 ⟨by decide, by decide⟩
  refine own_f s₁ (mkF m 21 #[.val (.ref a1), .val (.ref a2), .val (.int (0 : Int32))] [(.int y0), (.int x0)]) (fun t k => X0.baloadBytes hx (j := (0 : Int32)) (v := (.int y0)) (by rw [e0]; exact Ar5.1) (State.isArrayOf_alike hZ.alike Ar5.2.1) Ar5.2.2 hi5 (Has.at Hs5 hi5 rfl) (g := (mkF m 20 #[.val (.ref a1), .val (.ref a2), .val (.int (0 : Int32))] [(.int (0 : Int32)), (.ref a2), (.int x0)])) rfl rfl (hb hby dl11_20) t k) ?_
  by_cases hc6 : x0 = y0
  · skip
    refine own_f s₁ (mkF m 26 #[.val (.ref a1), .val (.ref a2), .val (.int (0 : Int32))] []) (fun t k => XS.icmpYes X0.here hx rfl (pc0 := 21) (pc' := 26) rfl (hb hby dl11_21) rfl (XT.ii_eq_t hc6) (by decide) (by decide) k) ?_
    refine own_f s₁ (mkF m 29 #[.val (.ref a1), .val (.ref a2), .val (.int ((0 : Int32) + (1 : Int32)))] []) (fun t k => XT.iincV X0.here hx rfl (l' := #[.val (.ref a1), .val (.ref a2), .val (.int ((0 : Int32) + (1 : Int32)))]) (1 : Int32) (hb hby dl11_26) (by decide) rfl rfl k) ?_
    rw [show ((0 : Int32) + (1 : Int32)) = (1 : Int32) from by decide]
    refine own_f s₁ (mkF m 9 #[.val (.ref a1), .val (.ref a2), .val (.int (1 : Int32))] []) (fun t k => XS.goto X0.here hx rfl (pc0 := 29) (pc' := 9) rfl (hb hby dl11_29) (by decide) (by decide) k) ?_
    refine own_f s₁ (mkF m 10 #[.val (.ref a1), .val (.ref a2), .val (.int (1 : Int32))] [(.int (1 : Int32))]) (fun t k => XS.iloadN X0.here hx rfl (hb hby dl11_9) rfl k) ?_
    refine own_f s₁ (mkF m 11 #[.val (.ref a1), .val (.ref a2), .val (.int (1 : Int32))] [(.ref a1), (.int (1 : Int32))]) (fun t k => XS.aloadN X0.here hx rfl (hb hby dl11_10) rfl rfl k) ?_
    refine own_f s₁ (mkF m 12 #[.val (.ref a1), .val (.ref a2), .val (.int (1 : Int32))] [(.int (1 : Int32)), (.int (1 : Int32))]) (fun t k => own_len X0 hx hZ e0 F0 (g := (mkF m 11 #[.val (.ref a1), .val (.ref a2), .val (.int (1 : Int32))] [(.ref a1), (.int (1 : Int32))])) rfl rfl (hb hby dl11_11) k) ?_
    refine own_f s₁ (mkF m 32 #[.val (.ref a1), .val (.ref a2), .val (.int (1 : Int32))] []) (fun t k => XS.icmpYes X0.here hx rfl (pc0 := 12) (pc' := 32) rfl (hb hby dl11_12) rfl (XT.ii_ge_t (by decide)) (by decide) (by decide) k) ?_
    refine own_f s₁ (mkF m 33 #[.val (.ref a1), .val (.ref a2), .val (.int (1 : Int32))] [(.int (1 : Int32))]) (fun t k => XT.iconstV X0.here hx rfl (1 : Int32) (hb hby dl11_32) (by decide) k) ?_
    obtain ⟨fs, hr, hrun, hended, hW, hsame⟩ := X0.leave (v := some (.int (1 : Int32))) (fun h => by rw [Bd.returns] at h; cases h)
    refine ⟨_, _, retN X0 hx (t := .boolean) Bd.returns (by simp) (hb hby dl11_33) hr, hrun, hended, _, _, rfl, ?_, ⟨_, rfl⟩, hW, hsame.mono (by decide) (by decide)⟩
    show Ql11 Z a1 a2 k1 k2 x0 y0 h0 n0 _ s₁.heap _
    rw [e0]
    exact ⟨by rw [own_b, if_pos hc6], N0, rfl⟩
  · skip
    refine own_f s₁ (mkF m 24 #[.val (.ref a1), .val (.ref a2), .val (.int (0 : Int32))] []) (fun t k => XS.icmpNo X0.here hx rfl (hb hby dl11_21) rfl (XT.ii_eq_f hc6) k) ?_
    refine own_f s₁ (mkF m 25 #[.val (.ref a1), .val (.ref a2), .val (.int (0 : Int32))] [(.int (0 : Int32))]) (fun t k => XT.iconstV X0.here hx rfl (0 : Int32) (hb hby dl11_24) (by decide) k) ?_
    obtain ⟨fs, hr, hrun, hended, hW, hsame⟩ := X0.leave (v := some (.int (0 : Int32))) (fun h => by rw [Bd.returns] at h; cases h)
    refine ⟨_, _, retN X0 hx (t := .boolean) Bd.returns (by simp) (hb hby dl11_25) hr, hrun, hended, _, _, rfl, ?_, ⟨_, rfl⟩, hW, hsame.mono (by decide) (by decide)⟩
    show Ql11 Z a1 a2 k1 k2 x0 y0 h0 n0 _ s₁.heap _
    rw [e0]
    exact ⟨by rw [own_b, if_neg (fun z => hc6 z)], N0, rfl⟩
theorem dl12_0 : decode jdk_43_method_13_code 0 = .ok (.aload_n 0, 1) := by decide +kernel
theorem dl12_1 : decode jdk_43_method_13_code 1 = .ok (.arraylength, 1) := by decide +kernel
theorem dl12_2 : decode jdk_43_method_13_code 2 = .ok (.aload_n 1, 1) := by decide +kernel
theorem dl12_3 : decode jdk_43_method_13_code 3 = .ok (.arraylength, 1) := by decide +kernel
theorem dl12_4 : decode jdk_43_method_13_code 4 = .ok (.if_icmp .ne 30, 3) := by decide +kernel
theorem dl12_7 : decode jdk_43_method_13_code 7 = .ok (.iconst 0, 1) := by decide +kernel
theorem dl12_8 : decode jdk_43_method_13_code 8 = .ok (.istore_n 2, 1) := by decide +kernel
theorem dl12_9 : decode jdk_43_method_13_code 9 = .ok (.iload_n 2, 1) := by decide +kernel
theorem dl12_10 : decode jdk_43_method_13_code 10 = .ok (.aload_n 0, 1) := by decide +kernel
theorem dl12_11 : decode jdk_43_method_13_code 11 = .ok (.arraylength, 1) := by decide +kernel
theorem dl12_12 : decode jdk_43_method_13_code 12 = .ok (.if_icmp .ge 20, 3) := by decide +kernel
theorem dl12_15 : decode jdk_43_method_13_code 15 = .ok (.aload_n 0, 1) := by decide +kernel
theorem dl12_16 : decode jdk_43_method_13_code 16 = .ok (.iload_n 2, 1) := by decide +kernel
theorem dl12_17 : decode jdk_43_method_13_code 17 = .ok (.baload, 1) := by decide +kernel
theorem dl12_18 : decode jdk_43_method_13_code 18 = .ok (.aload_n 1, 1) := by decide +kernel
theorem dl12_19 : decode jdk_43_method_13_code 19 = .ok (.iload_n 2, 1) := by decide +kernel
theorem dl12_20 : decode jdk_43_method_13_code 20 = .ok (.baload, 1) := by decide +kernel
theorem dl12_21 : decode jdk_43_method_13_code 21 = .ok (.if_icmp .eq 5, 3) := by decide +kernel
theorem dl12_24 : decode jdk_43_method_13_code 24 = .ok (.iconst 0, 1) := by decide +kernel
theorem dl12_25 : decode jdk_43_method_13_code 25 = .ok (.ireturn, 1) := by decide +kernel
theorem dl12_26 : decode jdk_43_method_13_code 26 = .ok (.iinc 2 1, 3) := by decide +kernel
theorem dl12_29 : decode jdk_43_method_13_code 29 = .ok (.goto (-20), 3) := by decide +kernel
theorem dl12_32 : decode jdk_43_method_13_code 32 = .ok (.iconst 1, 1) := by decide +kernel
theorem dl12_33 : decode jdk_43_method_13_code 33 = .ok (.ireturn, 1) := by decide +kernel
theorem pn_l12 : plainName "java/lang/StringLatin1" = true := by first | (simp [plainName, overriddenIn]; done) | decide +kernel
theorem ef_l12 (m : MethodId) (x0 : Addr) (x1 : Addr) : entryFrame m #[(.ref x0), (.ref x1)] 3 = mkF m 0 #[.val (.ref x0), .val (.ref x1), .unset] [] := by first | (simp [entryFrame, mkF, argsToLocals, Value.category]; done) | rfl
def Ql12 (Z : State) (a1 : Addr) (a2 : Addr) (k1 : ClassId) (k2 : ClassId) (x0 : Int32) (x1 : Int32) (y0 : Int32) (y1 : Int32) (h0 : Heap) (n0 : Nat) (v : Option Value) (h : Heap) (L : List Loc) : Prop := v = some (.int (own_b (x0 = y0 ∧ x1 = y1))) ∧ Fr n0 L ∧ h = h0
set_option maxRecDepth 65536 in
set_option maxHeartbeats 40000000 in
theorem rml12 (l : Launch) (Z : State) (a0 : Array Value) (hw : ∀ d ∈ tables_1, d.before a0 Z = true) (ws : List Jvm.Cond) (a1 : Addr) (a2 : Addr) (k1 : ClassId) (k2 : ClassId) (x0 : Int32) (x1 : Int32) (y0 : Int32) (y1 : Int32) (h0 : Heap) (n0 : Nat) (Z0 : n0 ≤ h0.size) (F0 : Arv Z h0 a1 k1 .byte (2 : Int32) [.int x0, .int x1] (.int 0)) (F1 : Arv Z h0 a2 k2 .byte (2 : Int32) [.int y0, .int y1] (.int 0)) :
    MetFree l (⟨"java/lang/StringLatin1", "equals", "([B[B)Z"⟩ : MethodName) (head1 (Jvm.Cond.code (⟨"java/lang/StringLatin1", "equals", "([B[B)Z"⟩ : MethodName) jdk_43_method_13_code 3 (some .boolean) :: ws) ({ frames := 0, cells := 0, slots := 0, locals := 0 } : Room)) (fun a U => a = #[(.ref a1), (.ref a2)] ∧ Z.Warmed39 U.vm ∧ U.heap = h0) (fun _ _ _ _ _ => True) (fun _ U o U' => ∃ v L, o = .returned v ∧ Ql12 Z a1 a2 k1 k2 x0 x1 y0 y1 h0 n0 v U'.heap L ∧ FrameEnd U o U' L ({ frames := 0, cells := 0, slots := 0, locals := 0 } : Room).cells ({ frames := 0, cells := 0, slots := 0, locals := 0 } : Room).slots) := by
  refine MetFree.of_bodySF (plainFor_of_name pn_l12) hisR ?_
  intro p e s m args below meth c s₁ Bd hml0 hP hK
  obtain ⟨rfl, hZ, hh⟩ := hP
  have hx := Bd.exec
  have hby := Bd.bytes
  have hml : c.maxLocals = 3 := hml0
  have hown : s.vm.findClass "java/lang/StringLatin1" = some m.cls := findClass_of_methodNamed Bd.named
  have hnm := (name_of_methodNamed Bd.named Bd.method).1
  have X0 : Stand p l e ({ frames := 0, cells := 0, slots := 0, locals := 0 } : Room) s m #[(.ref a1), (.ref a2)] below meth c s₁ [] 0 0 := Stand.of_body Bd
  have e0 : s₁.heap = h0 := by rw [← hh, Bd.state]; rfl
  have N0 := Fr.nil n0
  show own_R p.tables e below (own_P s (Ql12 Z a1 a2 k1 k2 x0 x1 y0 y1 h0 n0) ({ frames := 0, cells := 0, slots := 0, locals := 0 } : Room).cells ({ frames := 0, cells := 0, slots := 0, locals := 0 } : Room).slots) (s₁.setTop (entryFrame m #[(.ref a1), (.ref a2)] 3))
  refine own_f s₁ (mkF m 0 #[.val (.ref a1), .val (.ref a2), .unset] []) (fun t k => castTop (ef_l12 m a1 a2) k) ?_
  refine own_f s₁ (mkF m 1 #[.val (.ref a1), .val (.ref a2), .unset] [(.ref a1)]) (fun t k => XS.aloadN X0.here hx rfl (hb hby dl12_0) rfl rfl k) ?_
  refine own_f s₁ (mkF m 2 #[.val (.ref a1), .val (.ref a2), .unset] [(.int (2 : Int32))]) (fun t k => own_len X0 hx hZ e0 F0 (g := (mkF m 1 #[.val (.ref a1), .val (.ref a2), .unset] [(.ref a1)])) rfl rfl (hb hby dl12_1) k) ?_
  refine own_f s₁ (mkF m 3 #[.val (.ref a1), .val (.ref a2), .unset] [(.ref a2), (.int (2 : Int32))]) (fun t k => XS.aloadN X0.here hx rfl (hb hby dl12_2) rfl rfl k) ?_
  refine own_f s₁ (mkF m 4 #[.val (.ref a1), .val (.ref a2), .unset] [(.int (2 : Int32)), (.int (2 : Int32))]) (fun t k => own_len X0 hx hZ e0 F1 (g := (mkF m 3 #[.val (.ref a1), .val (.ref a2), .unset] [(.ref a2), (.int (2 : Int32))])) rfl rfl (hb hby dl12_3) k) ?_
  refine own_f s₁ (mkF m 7 #[.val (.ref a1), .val (.ref a2), .unset] []) (fun t k => XS.icmpNo X0.here hx rfl (hb hby dl12_4) rfl (XT.ii_ne_f (by decide)) k) ?_
  refine own_f s₁ (mkF m 8 #[.val (.ref a1), .val (.ref a2), .unset] [(.int (0 : Int32))]) (fun t k => XT.iconstV X0.here hx rfl (0 : Int32) (hb hby dl12_7) (by decide) k) ?_
  refine own_f s₁ (mkF m 9 #[.val (.ref a1), .val (.ref a2), .val (.int (0 : Int32))] []) (fun t k => XS.istoreN X0.here hx rfl (hb hby dl12_8) rfl (l' := #[.val (.ref a1), .val (.ref a2), .val (.int (0 : Int32))]) rfl k) ?_
  refine own_f s₁ (mkF m 10 #[.val (.ref a1), .val (.ref a2), .val (.int (0 : Int32))] [(.int (0 : Int32))]) (fun t k => XS.iloadN X0.here hx rfl (hb hby dl12_9) rfl k) ?_
  refine own_f s₁ (mkF m 11 #[.val (.ref a1), .val (.ref a2), .val (.int (0 : Int32))] [(.ref a1), (.int (0 : Int32))]) (fun t k => XS.aloadN X0.here hx rfl (hb hby dl12_10) rfl rfl k) ?_
  refine own_f s₁ (mkF m 12 #[.val (.ref a1), .val (.ref a2), .val (.int (0 : Int32))] [(.int (2 : Int32)), (.int (0 : Int32))]) (fun t k => own_len X0 hx hZ e0 F0 (g := (mkF m 11 #[.val (.ref a1), .val (.ref a2), .val (.int (0 : Int32))] [(.ref a1), (.int (0 : Int32))])) rfl rfl (hb hby dl12_11) k) ?_
  refine own_f s₁ (mkF m 15 #[.val (.ref a1), .val (.ref a2), .val (.int (0 : Int32))] []) (fun t k => XS.icmpNo X0.here hx rfl (hb hby dl12_12) rfl (XT.ii_ge_f (by decide)) k) ?_
  refine own_f s₁ (mkF m 16 #[.val (.ref a1), .val (.ref a2), .val (.int (0 : Int32))] [(.ref a1)]) (fun t k => XS.aloadN X0.here hx rfl (hb hby dl12_15) rfl rfl k) ?_
  refine own_f s₁ (mkF m 17 #[.val (.ref a1), .val (.ref a2), .val (.int (0 : Int32))] [(.int (0 : Int32)), (.ref a1)]) (fun t k => XS.iloadN X0.here hx rfl (hb hby dl12_16) rfl k) ?_
  obtain ⟨cl4, Ar4, q14, Sz4, q34, Hs4, Gs4⟩ := id F0
  have hi4 := inb_of (j := (0 : Int32)) Sz4 ⟨by decide, by decide⟩
  refine own_f s₁ (mkF m 18 #[.val (.ref a1), .val (.ref a2), .val (.int (0 : Int32))] [(.int x0)]) (fun t k => X0.baloadBytes hx (j := (0 : Int32)) (v := (.int x0)) (by rw [e0]; exact Ar4.1) (State.isArrayOf_alike hZ.alike Ar4.2.1) Ar4.2.2 hi4 (Has.at Hs4 hi4 rfl) (g := (mkF m 17 #[.val (.ref a1), .val (.ref a2), .val (.int (0 : Int32))] [(.int (0 : Int32)), (.ref a1)])) rfl rfl (hb hby dl12_17) t k) ?_
  refine own_f s₁ (mkF m 19 #[.val (.ref a1), .val (.ref a2), .val (.int (0 : Int32))] [(.ref a2), (.int x0)]) (fun t k => XS.aloadN X0.here hx rfl (hb hby dl12_18) rfl rfl k) ?_
  refine own_f s₁ (mkF m 20 #[.val (.ref a1), .val (.ref a2), .val (.int (0 : Int32))] [(.int (0 : Int32)), (.ref a2), (.int x0)]) (fun t k => XS.iloadN X0.here hx rfl (hb hby dl12_19) rfl k) ?_
  obtain ⟨cl5, Ar5, q15, Sz5, q35, Hs5, Gs5⟩ := id F1
  have hi5 := inb_of (j := (0 : Int32)) Sz5 ⟨by decide, by decide⟩
  refine own_f s₁ (mkF m 21 #[.val (.ref a1), .val (.ref a2), .val (.int (0 : Int32))] [(.int y0), (.int x0)]) (fun t k => X0.baloadBytes hx (j := (0 : Int32)) (v := (.int y0)) (by rw [e0]; exact Ar5.1) (State.isArrayOf_alike hZ.alike Ar5.2.1) Ar5.2.2 hi5 (Has.at Hs5 hi5 rfl) (g := (mkF m 20 #[.val (.ref a1), .val (.ref a2), .val (.int (0 : Int32))] [(.int (0 : Int32)), (.ref a2), (.int x0)])) rfl rfl (hb hby dl12_20) t k) ?_
  by_cases hc6 : x0 = y0
  · skip
    refine own_f s₁ (mkF m 26 #[.val (.ref a1), .val (.ref a2), .val (.int (0 : Int32))] []) (fun t k => XS.icmpYes X0.here hx rfl (pc0 := 21) (pc' := 26) rfl (hb hby dl12_21) rfl (XT.ii_eq_t hc6) (by decide) (by decide) k) ?_
    refine own_f s₁ (mkF m 29 #[.val (.ref a1), .val (.ref a2), .val (.int ((0 : Int32) + (1 : Int32)))] []) (fun t k => XT.iincV X0.here hx rfl (l' := #[.val (.ref a1), .val (.ref a2), .val (.int ((0 : Int32) + (1 : Int32)))]) (1 : Int32) (hb hby dl12_26) (by decide) rfl rfl k) ?_
    rw [show ((0 : Int32) + (1 : Int32)) = (1 : Int32) from by decide]
    refine own_f s₁ (mkF m 9 #[.val (.ref a1), .val (.ref a2), .val (.int (1 : Int32))] []) (fun t k => XS.goto X0.here hx rfl (pc0 := 29) (pc' := 9) rfl (hb hby dl12_29) (by decide) (by decide) k) ?_
    refine own_f s₁ (mkF m 10 #[.val (.ref a1), .val (.ref a2), .val (.int (1 : Int32))] [(.int (1 : Int32))]) (fun t k => XS.iloadN X0.here hx rfl (hb hby dl12_9) rfl k) ?_
    refine own_f s₁ (mkF m 11 #[.val (.ref a1), .val (.ref a2), .val (.int (1 : Int32))] [(.ref a1), (.int (1 : Int32))]) (fun t k => XS.aloadN X0.here hx rfl (hb hby dl12_10) rfl rfl k) ?_
    refine own_f s₁ (mkF m 12 #[.val (.ref a1), .val (.ref a2), .val (.int (1 : Int32))] [(.int (2 : Int32)), (.int (1 : Int32))]) (fun t k => own_len X0 hx hZ e0 F0 (g := (mkF m 11 #[.val (.ref a1), .val (.ref a2), .val (.int (1 : Int32))] [(.ref a1), (.int (1 : Int32))])) rfl rfl (hb hby dl12_11) k) ?_
    refine own_f s₁ (mkF m 15 #[.val (.ref a1), .val (.ref a2), .val (.int (1 : Int32))] []) (fun t k => XS.icmpNo X0.here hx rfl (hb hby dl12_12) rfl (XT.ii_ge_f (by decide)) k) ?_
    refine own_f s₁ (mkF m 16 #[.val (.ref a1), .val (.ref a2), .val (.int (1 : Int32))] [(.ref a1)]) (fun t k => XS.aloadN X0.here hx rfl (hb hby dl12_15) rfl rfl k) ?_
    refine own_f s₁ (mkF m 17 #[.val (.ref a1), .val (.ref a2), .val (.int (1 : Int32))] [(.int (1 : Int32)), (.ref a1)]) (fun t k => XS.iloadN X0.here hx rfl (hb hby dl12_16) rfl k) ?_
    obtain ⟨cl8, Ar8, q18, Sz8, q38, Hs8, Gs8⟩ := id F0
    have hi8 := inb_of (j := (1 : Int32)) Sz8 ⟨by decide, by decide⟩
    refine own_f s₁ (mkF m 18 #[.val (.ref a1), .val (.ref a2), .val (.int (1 : Int32))] [(.int x1)]) (fun t k => X0.baloadBytes hx (j := (1 : Int32)) (v := (.int x1)) (by rw [e0]; exact Ar8.1) (State.isArrayOf_alike hZ.alike Ar8.2.1) Ar8.2.2 hi8 (Has.at Hs8 hi8 rfl) (g := (mkF m 17 #[.val (.ref a1), .val (.ref a2), .val (.int (1 : Int32))] [(.int (1 : Int32)), (.ref a1)])) rfl rfl (hb hby dl12_17) t k) ?_
    refine own_f s₁ (mkF m 19 #[.val (.ref a1), .val (.ref a2), .val (.int (1 : Int32))] [(.ref a2), (.int x1)]) (fun t k => XS.aloadN X0.here hx rfl (hb hby dl12_18) rfl rfl k) ?_
    refine own_f s₁ (mkF m 20 #[.val (.ref a1), .val (.ref a2), .val (.int (1 : Int32))] [(.int (1 : Int32)), (.ref a2), (.int x1)]) (fun t k => XS.iloadN X0.here hx rfl (hb hby dl12_19) rfl k) ?_
    obtain ⟨cl9, Ar9, q19, Sz9, q39, Hs9, Gs9⟩ := id F1
    have hi9 := inb_of (j := (1 : Int32)) Sz9 ⟨by decide, by decide⟩
    refine own_f s₁ (mkF m 21 #[.val (.ref a1), .val (.ref a2), .val (.int (1 : Int32))] [(.int y1), (.int x1)]) (fun t k => X0.baloadBytes hx (j := (1 : Int32)) (v := (.int y1)) (by rw [e0]; exact Ar9.1) (State.isArrayOf_alike hZ.alike Ar9.2.1) Ar9.2.2 hi9 (Has.at Hs9 hi9 rfl) (g := (mkF m 20 #[.val (.ref a1), .val (.ref a2), .val (.int (1 : Int32))] [(.int (1 : Int32)), (.ref a2), (.int x1)])) rfl rfl (hb hby dl12_20) t k) ?_
    by_cases hc10 : x1 = y1
    · skip
      refine own_f s₁ (mkF m 26 #[.val (.ref a1), .val (.ref a2), .val (.int (1 : Int32))] []) (fun t k => XS.icmpYes X0.here hx rfl (pc0 := 21) (pc' := 26) rfl (hb hby dl12_21) rfl (XT.ii_eq_t hc10) (by decide) (by decide) k) ?_
      refine own_f s₁ (mkF m 29 #[.val (.ref a1), .val (.ref a2), .val (.int ((1 : Int32) + (1 : Int32)))] []) (fun t k => XT.iincV X0.here hx rfl (l' := #[.val (.ref a1), .val (.ref a2), .val (.int ((1 : Int32) + (1 : Int32)))]) (1 : Int32) (hb hby dl12_26) (by decide) rfl rfl k) ?_
      rw [show ((1 : Int32) + (1 : Int32)) = (2 : Int32) from by decide]
      refine own_f s₁ (mkF m 9 #[.val (.ref a1), .val (.ref a2), .val (.int (2 : Int32))] []) (fun t k => XS.goto X0.here hx rfl (pc0 := 29) (pc' := 9) rfl (hb hby dl12_29) (by decide) (by decide) k) ?_
      refine own_f s₁ (mkF m 10 #[.val (.ref a1), .val (.ref a2), .val (.int (2 : Int32))] [(.int (2 : Int32))]) (fun t k => XS.iloadN X0.here hx rfl (hb hby dl12_9) rfl k) ?_
      refine own_f s₁ (mkF m 11 #[.val (.ref a1), .val (.ref a2), .val (.int (2 : Int32))] [(.ref a1), (.int (2 : Int32))]) (fun t k => XS.aloadN X0.here hx rfl (hb hby dl12_10) rfl rfl k) ?_
      refine own_f s₁ (mkF m 12 #[.val (.ref a1), .val (.ref a2), .val (.int (2 : Int32))] [(.int (2 : Int32)), (.int (2 : Int32))]) (fun t k => own_len X0 hx hZ e0 F0 (g := (mkF m 11 #[.val (.ref a1), .val (.ref a2), .val (.int (2 : Int32))] [(.ref a1), (.int (2 : Int32))])) rfl rfl (hb hby dl12_11) k) ?_
      refine own_f s₁ (mkF m 32 #[.val (.ref a1), .val (.ref a2), .val (.int (2 : Int32))] []) (fun t k => XS.icmpYes X0.here hx rfl (pc0 := 12) (pc' := 32) rfl (hb hby dl12_12) rfl (XT.ii_ge_t (by decide)) (by decide) (by decide) k) ?_
      refine own_f s₁ (mkF m 33 #[.val (.ref a1), .val (.ref a2), .val (.int (2 : Int32))] [(.int (1 : Int32))]) (fun t k => XT.iconstV X0.here hx rfl (1 : Int32) (hb hby dl12_32) (by decide) k) ?_
      obtain ⟨fs, hr, hrun, hended, hW, hsame⟩ := X0.leave (v := some (.int (1 : Int32))) (fun h => by rw [Bd.returns] at h; cases h)
      refine ⟨_, _, retN X0 hx (t := .boolean) Bd.returns (by simp) (hb hby dl12_33) hr, hrun, hended, _, _, rfl, ?_, ⟨_, rfl⟩, hW, hsame.mono (by decide) (by decide)⟩
      show Ql12 Z a1 a2 k1 k2 x0 x1 y0 y1 h0 n0 _ s₁.heap _
      rw [e0]
      exact ⟨by rw [own_b, if_pos ⟨hc6, hc10⟩], N0, rfl⟩
    · skip
      refine own_f s₁ (mkF m 24 #[.val (.ref a1), .val (.ref a2), .val (.int (1 : Int32))] []) (fun t k => XS.icmpNo X0.here hx rfl (hb hby dl12_21) rfl (XT.ii_eq_f hc10) k) ?_
      refine own_f s₁ (mkF m 25 #[.val (.ref a1), .val (.ref a2), .val (.int (1 : Int32))] [(.int (0 : Int32))]) (fun t k => XT.iconstV X0.here hx rfl (0 : Int32) (hb hby dl12_24) (by decide) k) ?_
      obtain ⟨fs, hr, hrun, hended, hW, hsame⟩ := X0.leave (v := some (.int (0 : Int32))) (fun h => by rw [Bd.returns] at h; cases h)
      refine ⟨_, _, retN X0 hx (t := .boolean) Bd.returns (by simp) (hb hby dl12_25) hr, hrun, hended, _, _, rfl, ?_, ⟨_, rfl⟩, hW, hsame.mono (by decide) (by decide)⟩
      show Ql12 Z a1 a2 k1 k2 x0 x1 y0 y1 h0 n0 _ s₁.heap _
      rw [e0]
      exact ⟨by rw [own_b, if_neg (fun z => hc10 z.2)], N0, rfl⟩
  · skip
    refine own_f s₁ (mkF m 24 #[.val (.ref a1), .val (.ref a2), .val (.int (0 : Int32))] []) (fun t k => XS.icmpNo X0.here hx rfl (hb hby dl12_21) rfl (XT.ii_eq_f hc6) k) ?_
    refine own_f s₁ (mkF m 25 #[.val (.ref a1), .val (.ref a2), .val (.int (0 : Int32))] [(.int (0 : Int32))]) (fun t k => XT.iconstV X0.here hx rfl (0 : Int32) (hb hby dl12_24) (by decide) k) ?_
    obtain ⟨fs, hr, hrun, hended, hW, hsame⟩ := X0.leave (v := some (.int (0 : Int32))) (fun h => by rw [Bd.returns] at h; cases h)
    refine ⟨_, _, retN X0 hx (t := .boolean) Bd.returns (by simp) (hb hby dl12_25) hr, hrun, hended, _, _, rfl, ?_, ⟨_, rfl⟩, hW, hsame.mono (by decide) (by decide)⟩
    show Ql12 Z a1 a2 k1 k2 x0 x1 y0 y1 h0 n0 _ s₁.heap _
    rw [e0]
    exact ⟨by rw [own_b, if_neg (fun z => hc6 z.1)], N0, rfl⟩
theorem dsex_0 : decode jdk_42_method_66_code 0 = .ok (.aload_n 0, 1) := by decide +kernel
theorem dsex_1 : decode jdk_42_method_66_code 1 = .ok (.aload_n 1, 1) := by decide +kernel
theorem dsex_2 : decode jdk_42_method_66_code 2 = .ok (.if_acmp .ne 5, 3) := by decide +kernel
theorem dsex_7 : decode jdk_42_method_66_code 7 = .ok (.aload_n 1, 1) := by decide +kernel
theorem dsex_8 : decode jdk_42_method_66_code 8 = .ok (.instanceof 10, 3) := by decide +kernel
theorem dsex_11 : decode jdk_42_method_66_code 11 = .ok (.ifCond .eq 43, 3) := by decide +kernel
theorem dsex_14 : decode jdk_42_method_66_code 14 = .ok (.aload_n 1, 1) := by decide +kernel
theorem dsex_15 : decode jdk_42_method_66_code 15 = .ok (.checkcast 10, 3) := by decide +kernel
theorem dsex_18 : decode jdk_42_method_66_code 18 = .ok (.astore_n 2, 1) := by decide +kernel
theorem dsex_19 : decode jdk_42_method_66_code 19 = .ok (.getstatic 38, 3) := by decide +kernel
theorem dsex_22 : decode jdk_42_method_66_code 22 = .ok (.ifCond .eq 14, 3) := by decide +kernel
theorem dsex_25 : decode jdk_42_method_66_code 25 = .ok (.aload_n 0, 1) := by decide +kernel
theorem dsex_26 : decode jdk_42_method_66_code 26 = .ok (.getfield 15, 3) := by decide +kernel
theorem dsex_29 : decode jdk_42_method_66_code 29 = .ok (.aload_n 2, 1) := by decide +kernel
theorem dsex_30 : decode jdk_42_method_66_code 30 = .ok (.getfield 15, 3) := by decide +kernel
theorem dsex_33 : decode jdk_42_method_66_code 33 = .ok (.if_icmp .ne 21, 3) := by decide +kernel
theorem dsex_36 : decode jdk_42_method_66_code 36 = .ok (.aload_n 0, 1) := by decide +kernel
theorem dsex_37 : decode jdk_42_method_66_code 37 = .ok (.getfield 9, 3) := by decide +kernel
theorem dsex_40 : decode jdk_42_method_66_code 40 = .ok (.aload_n 2, 1) := by decide +kernel
theorem dsex_41 : decode jdk_42_method_66_code 41 = .ok (.getfield 9, 3) := by decide +kernel
theorem dsex_44 : decode jdk_42_method_66_code 44 = .ok (.invokestatic 541, 3) := by decide +kernel
theorem dsex_47 : decode jdk_42_method_66_code 47 = .ok (.ifCond .eq 7, 3) := by decide +kernel
theorem dsex_54 : decode jdk_42_method_66_code 54 = .ok (.iconst 0, 1) := by decide +kernel
theorem dsex_55 : decode jdk_42_method_66_code 55 = .ok (.ireturn, 1) := by decide +kernel
theorem pn_sex : plainName "java/lang/String" = true := by first | (simp [plainName, overriddenIn]; done) | decide +kernel
theorem ef_sex (m : MethodId) (x0 : Addr) (x1 : Addr) : entryFrame m #[(.ref x0), (.ref x1)] 3 = mkF m 0 #[.val (.ref x0), .val (.ref x1), .unset] [] := by first | (simp [entryFrame, mkF, argsToLocals, Value.category]; done) | rfl
def Qsex (Z : State) (a1 : Addr) (a2 : Addr) (d1 : Addr) (d2 : Addr) (k1 : ClassId) (k2 : ClassId) (z1 : Int32) (z2 : Int32) (v1 : List Value) (v2 : List Value) (wc : Int32) (h0 : Heap) (n0 : Nat) (v : Option Value) (h : Heap) (L : List Loc) : Prop := v = some (.int (0 : Int32)) ∧ Fr n0 L ∧ h = h0
set_option maxRecDepth 65536 in
set_option maxHeartbeats 40000000 in
theorem rmsex (l : Launch) (Z : State) (a0 : Array Value) (hw : ∀ d ∈ tables_1, d.before a0 Z = true) (ws : List Jvm.Cond) (a1 : Addr) (a2 : Addr) (d1 : Addr) (d2 : Addr) (k1 : ClassId) (k2 : ClassId) (z1 : Int32) (z2 : Int32) (v1 : List Value) (v2 : List Value) (wc : Int32) (h0 : Heap) (n0 : Nat) (Z0 : n0 ≤ h0.size) (F0 : Old Z n0 h0) (F1 : Exa Z h0 a1 "java/lang/String") (F2 : Exa Z h0 a2 "java/lang/String") (F3 : Fld Z h0 a1 "java/lang/String" "coder" "B" (.int (0 : Int32))) (F4 : Fld Z h0 a2 "java/lang/String" "coder" "B" (.int (0 : Int32))) (F5 : Fld Z h0 a1 "java/lang/String" "value" "[B" (.ref d1)) (F6 : Fld Z h0 a2 "java/lang/String" "value" "[B" (.ref d2)) (F7 : Arv Z h0 d1 k1 .byte z1 v1 (.int 0)) (F8 : Arv Z h0 d2 k2 .byte z2 v2 (.int 0)) (SC : Sta Z Z.heap "java/lang/String" "COMPACT_STRINGS" "Z" (.int wc)) (HWC : ¬ (wc = 0)) (hne : ¬ ((.ref a1 : Value) = (.ref a2))) (hz : ¬ (z1 = z2)) :
    MetFree l (⟨"java/lang/String", "equals", "(Ljava/lang/Object;)Z"⟩ : MethodName) (head1 (Jvm.Cond.code (⟨"java/lang/String", "equals", "(Ljava/lang/Object;)Z"⟩ : MethodName) jdk_42_method_66_code 3 (some .boolean) :: ws) ({ frames := 1, cells := 0, slots := 0, locals := 14 } : Room)) (fun a U => a = #[(.ref a1), (.ref a2)] ∧ Z.Warmed39 U.vm ∧ U.heap = h0) (fun _ _ _ _ _ => True) (fun _ U o U' => ∃ v L, o = .returned v ∧ Qsex Z a1 a2 d1 d2 k1 k2 z1 z2 v1 v2 wc h0 n0 v U'.heap L ∧ FrameEnd U o U' L ({ frames := 1, cells := 0, slots := 0, locals := 14 } : Room).cells ({ frames := 1, cells := 0, slots := 0, locals := 14 } : Room).slots) := by
  refine MetFree.of_bodySF (plainFor_of_name pn_sex) hisR ?_
  intro p e s m args below meth c s₁ Bd hml0 hP hK
  obtain ⟨rfl, hZ, hh⟩ := hP
  have hx := Bd.exec
  have hby := Bd.bytes
  have hml : c.maxLocals = 3 := hml0
  have hown : s.vm.findClass "java/lang/String" = some m.cls := findClass_of_methodNamed Bd.named
  have hnm := (name_of_methodNamed Bd.named Bd.method).1
  have X0 : Stand p l e ({ frames := 1, cells := 0, slots := 0, locals := 14 } : Room) s m #[(.ref a1), (.ref a2)] below meth c s₁ [] 0 0 := Stand.of_body Bd
  have e0 : s₁.heap = h0 := by rw [← hh, Bd.state]; rfl
  have N0 := Fr.nil n0
  show own_R p.tables e below (own_P s (Qsex Z a1 a2 d1 d2 k1 k2 z1 z2 v1 v2 wc h0 n0) ({ frames := 1, cells := 0, slots := 0, locals := 14 } : Room).cells ({ frames := 1, cells := 0, slots := 0, locals := 14 } : Room).slots) (s₁.setTop (entryFrame m #[(.ref a1), (.ref a2)] 3))
  refine own_f s₁ (mkF m 0 #[.val (.ref a1), .val (.ref a2), .unset] []) (fun t k => castTop (ef_sex m a1 a2) k) ?_
  refine own_f s₁ (mkF m 1 #[.val (.ref a1), .val (.ref a2), .unset] [(.ref a1)]) (fun t k => XS.aloadN X0.here hx rfl (hb hby dsex_0) rfl rfl k) ?_
  refine own_f s₁ (mkF m 2 #[.val (.ref a1), .val (.ref a2), .unset] [(.ref a2), (.ref a1)]) (fun t k => XS.aloadN X0.here hx rfl (hb hby dsex_1) rfl rfl k) ?_
  refine own_f s₁ (mkF m 7 #[.val (.ref a1), .val (.ref a2), .unset] []) (fun t k => XT.acmpYes X0.here hx rfl (pc0 := 2) (pc' := 7) rfl (hb hby dsex_2) rfl rfl rfl (XT.aa_ne_t hne) (by decide) (by decide) k) ?_
  refine own_f s₁ (mkF m 8 #[.val (.ref a1), .val (.ref a2), .unset] [(.ref a2)]) (fun t k => XS.aloadN X0.here hx rfl (hb hby dsex_7) rfl rfl k) ?_
  obtain ⟨T1, X1, e1, st1⟩ := instY X0 hx hZ hown (own_w hw 35 rfl) e0 (Ins.self F2) (g := (mkF m 8 #[.val (.ref a1), .val (.ref a2), .unset] [(.ref a2)])) rfl rfl (hb hby dsex_8)
  refine own_f T1 (mkF m 11 #[.val (.ref a1), .val (.ref a2), .unset] [(.int (1 : Int32))]) st1 ?_
  refine own_f T1 (mkF m 14 #[.val (.ref a1), .val (.ref a2), .unset] []) (fun t k => XS.ifNo X1.here hx rfl (hb hby dsex_11) rfl (XT.i0_eq_f (by decide)) k) ?_
  refine own_f T1 (mkF m 15 #[.val (.ref a1), .val (.ref a2), .unset] [(.ref a2)]) (fun t k => XS.aloadN X1.here hx rfl (hb hby dsex_14) rfl rfl k) ?_
  obtain ⟨T2, X2, e2, st2⟩ := castY X1 hx hZ hown (own_w hw 35 rfl) e1 (Ins.self F2) (g := (mkF m 15 #[.val (.ref a1), .val (.ref a2), .unset] [(.ref a2)])) rfl rfl (hb hby dsex_15)
  refine own_f T2 (mkF m 18 #[.val (.ref a1), .val (.ref a2), .unset] [(.ref a2)]) st2 ?_
  refine own_f T2 (mkF m 19 #[.val (.ref a1), .val (.ref a2), .val (.ref a2)] []) (fun t k => XS.astoreN X2.here hx rfl (hb hby dsex_18) rfl rfl (l' := #[.val (.ref a1), .val (.ref a2), .val (.ref a2)]) rfl k) ?_
  have S3 : Sta Z h0 "java/lang/String" "COMPACT_STRINGS" "Z" (.int wc) := SC.ext F0.2
  obtain ⟨T3, X3, e3, st3⟩ := getS X2 hx hZ (host := "") hown (own_w hw 36 rfl) Via.refl e2 S3 (g := (mkF m 19 #[.val (.ref a1), .val (.ref a2), .val (.ref a2)] [])) rfl (hb hby dsex_19)
  refine own_f T3 (mkF m 22 #[.val (.ref a1), .val (.ref a2), .val (.ref a2)] [(.int wc)]) st3 ?_
  refine own_f T3 (mkF m 25 #[.val (.ref a1), .val (.ref a2), .val (.ref a2)] []) (fun t k => XS.ifNo X3.here hx rfl (hb hby dsex_22) rfl (XT.i0_eq_f HWC) k) ?_
  refine own_f T3 (mkF m 26 #[.val (.ref a1), .val (.ref a2), .val (.ref a2)] [(.ref a1)]) (fun t k => XS.aloadN X3.here hx rfl (hb hby dsex_25) rfl rfl k) ?_
  obtain ⟨T4, X4, e4, st4⟩ := getF X3 hx hZ hown (host := "") (Or.inl (own_w hw 29 rfl)) Via.refl e3 F3 (g := (mkF m 26 #[.val (.ref a1), .val (.ref a2), .val (.ref a2)] [(.ref a1)])) rfl rfl (hb hby dsex_26)
  refine own_f T4 (mkF m 29 #[.val (.ref a1), .val (.ref a2), .val (.ref a2)] [(.int (0 : Int32))]) st4 ?_
  refine own_f T4 (mkF m 30 #[.val (.ref a1), .val (.ref a2), .val (.ref a2)] [(.ref a2), (.int (0 : Int32))]) (fun t k => XS.aloadN X4.here hx rfl (hb hby dsex_29) rfl rfl k) ?_
  obtain ⟨T5, X5, e5, st5⟩ := getF X4 hx hZ hown (host := "") (Or.inl (own_w hw 29 rfl)) Via.refl e4 F4 (g := (mkF m 30 #[.val (.ref a1), .val (.ref a2), .val (.ref a2)] [(.ref a2), (.int (0 : Int32))])) rfl rfl (hb hby dsex_30)
  refine own_f T5 (mkF m 33 #[.val (.ref a1), .val (.ref a2), .val (.ref a2)] [(.int (0 : Int32)), (.int (0 : Int32))]) st5 ?_
  refine own_f T5 (mkF m 36 #[.val (.ref a1), .val (.ref a2), .val (.ref a2)] []) (fun t k => XS.icmpNo X5.here hx rfl (hb hby dsex_33) rfl (XT.ii_ne_f (by decide)) k) ?_
  refine own_f T5 (mkF m 37 #[.val (.ref a1), .val (.ref a2), .val (.ref a2)] [(.ref a1)]) (fun t k => XS.aloadN X5.here hx rfl (hb hby dsex_36) rfl rfl k) ?_
  obtain ⟨T6, X6, e6, st6⟩ := getF X5 hx hZ hown (host := "") (Or.inl (own_w hw 28 rfl)) Via.refl e5 F5 (g := (mkF m 37 #[.val (.ref a1), .val (.ref a2), .val (.ref a2)] [(.ref a1)])) rfl rfl (hb hby dsex_37)
  refine own_f T6 (mkF m 40 #[.val (.ref a1), .val (.ref a2), .val (.ref a2)] [(.ref d1)]) st6 ?_
  refine own_f T6 (mkF m 41 #[.val (.ref a1), .val (.ref a2), .val (.ref a2)] [(.ref a2), (.ref d1)]) (fun t k => XS.aloadN X6.here hx rfl (hb hby dsex_40) rfl rfl k) ?_
  obtain ⟨T7, X7, e7, st7⟩ := getF X6 hx hZ hown (host := "") (Or.inl (own_w hw 28 rfl)) Via.refl e6 F6 (g := (mkF m 41 #[.val (.ref a1), .val (.ref a2), .val (.ref a2)] [(.ref a2), (.ref d1)])) rfl rfl (hb hby dsex_41)
  refine own_f T7 (mkF m 44 #[.val (.ref a1), .val (.ref a2), .val (.ref a2)] [(.ref d2), (.ref d1)]) st7 ?_
  obtain ⟨_, _, ⟨T8, Lq8, kq_8, nq_8⟩, -, X8, ⟨Lc8, hQ8, lq8, yq8, zq8⟩, st8⟩ := Jvm.LawKit.callS X7 hx (y := (⟨"java/lang/StringLatin1", "equals", "([B[B)Z"⟩ : MethodName)) hown (mvT hZ (own_w hw 37 rfl)) (mvT hZ (own_w hw 38 rfl)) (mvT hZ (own_w hw 39 rfl)) (mvT hZ (own_w hw 40 rfl)) (by decide) (backOf (W := 0) (rml1x l Z a0 hw [] d1 d2 _ _ _ _ _ _ h0 n0 Z0 F7 F8 hz) hZ (own_w hw 40 rfl) (own_w hw 39 rfl) (by decide) (by decide)) (g := (mkF m 44 #[.val (.ref a1), .val (.ref a2), .val (.ref a2)] [(.ref d2), (.ref d1)])) rfl (by rw [hml]; rfl) (argsL := [(.ref d1), (.ref d2)]) (rest := []) (lenOf pd__B_B_Z rfl) rfl (by show 2 * 0 + _ ≤ _; exact Nat.le_of_eq rfl) (hb hby dsex_44) (fun _ _ => ⟨rfl, e7, (by decide : 0 + 0 ≤ _), (by decide : 0 + 0 ≤ _)⟩)
  dsimp only [Pt.U, Pt.locs, Pt.cells, Pt.slots] at X8 lq8 yq8 zq8 st8 hQ8
  subst lq8 yq8 zq8
  obtain ⟨h8, e8⟩ : ∃ z, T8.heap = z := ⟨_, rfl⟩
  rw [e8] at hQ8
  unfold Ql1x at hQ8
  obtain ⟨rfl, Nq8, qh8⟩ := hQ8
  have N8 := Fr.app N0 Nq8
  rw [qh8] at e8
  refine own_f T8 (mkF m 47 #[.val (.ref a1), .val (.ref a2), .val (.ref a2)] [(.int (0 : Int32))]) st8 ?_
  refine own_f T8 (mkF m 54 #[.val (.ref a1), .val (.ref a2), .val (.ref a2)] []) (fun t k => XS.ifYes X8.here hx rfl (pc0 := 47) (pc' := 54) rfl (hb hby dsex_47) rfl (XT.i0_eq_t (by decide)) (by decide) (by decide) k) ?_
  refine own_f T8 (mkF m 55 #[.val (.ref a1), .val (.ref a2), .val (.ref a2)] [(.int (0 : Int32))]) (fun t k => XT.iconstV X8.here hx rfl (0 : Int32) (hb hby dsex_54) (by decide) k) ?_
  obtain ⟨fs, hr, hrun, hended, hW, hsame⟩ := X8.leave (v := some (.int (0 : Int32))) (fun h => by rw [Bd.returns] at h; cases h)
  refine ⟨_, _, retN X8 hx (t := .boolean) Bd.returns (by simp) (hb hby dsex_55) hr, hrun, hended, _, _, rfl, ?_, ⟨_, rfl⟩, hW, hsame.mono (by decide) (by decide)⟩
  show Qsex Z a1 a2 d1 d2 k1 k2 z1 z2 v1 v2 wc h0 n0 _ T8.heap _
  rw [e8]
  exact ⟨rfl, N8, rfl⟩
theorem dse0_0 : decode jdk_42_method_66_code 0 = .ok (.aload_n 0, 1) := by decide +kernel
theorem dse0_1 : decode jdk_42_method_66_code 1 = .ok (.aload_n 1, 1) := by decide +kernel
theorem dse0_2 : decode jdk_42_method_66_code 2 = .ok (.if_acmp .ne 5, 3) := by decide +kernel
theorem dse0_7 : decode jdk_42_method_66_code 7 = .ok (.aload_n 1, 1) := by decide +kernel
theorem dse0_8 : decode jdk_42_method_66_code 8 = .ok (.instanceof 10, 3) := by decide +kernel
theorem dse0_11 : decode jdk_42_method_66_code 11 = .ok (.ifCond .eq 43, 3) := by decide +kernel
theorem dse0_14 : decode jdk_42_method_66_code 14 = .ok (.aload_n 1, 1) := by decide +kernel
theorem dse0_15 : decode jdk_42_method_66_code 15 = .ok (.checkcast 10, 3) := by decide +kernel
theorem dse0_18 : decode jdk_42_method_66_code 18 = .ok (.astore_n 2, 1) := by decide +kernel
theorem dse0_19 : decode jdk_42_method_66_code 19 = .ok (.getstatic 38, 3) := by decide +kernel
theorem dse0_22 : decode jdk_42_method_66_code 22 = .ok (.ifCond .eq 14, 3) := by decide +kernel
theorem dse0_25 : decode jdk_42_method_66_code 25 = .ok (.aload_n 0, 1) := by decide +kernel
theorem dse0_26 : decode jdk_42_method_66_code 26 = .ok (.getfield 15, 3) := by decide +kernel
theorem dse0_29 : decode jdk_42_method_66_code 29 = .ok (.aload_n 2, 1) := by decide +kernel
theorem dse0_30 : decode jdk_42_method_66_code 30 = .ok (.getfield 15, 3) := by decide +kernel
theorem dse0_33 : decode jdk_42_method_66_code 33 = .ok (.if_icmp .ne 21, 3) := by decide +kernel
theorem dse0_36 : decode jdk_42_method_66_code 36 = .ok (.aload_n 0, 1) := by decide +kernel
theorem dse0_37 : decode jdk_42_method_66_code 37 = .ok (.getfield 9, 3) := by decide +kernel
theorem dse0_40 : decode jdk_42_method_66_code 40 = .ok (.aload_n 2, 1) := by decide +kernel
theorem dse0_41 : decode jdk_42_method_66_code 41 = .ok (.getfield 9, 3) := by decide +kernel
theorem dse0_44 : decode jdk_42_method_66_code 44 = .ok (.invokestatic 541, 3) := by decide +kernel
theorem dse0_47 : decode jdk_42_method_66_code 47 = .ok (.ifCond .eq 7, 3) := by decide +kernel
theorem dse0_50 : decode jdk_42_method_66_code 50 = .ok (.iconst 1, 1) := by decide +kernel
theorem dse0_51 : decode jdk_42_method_66_code 51 = .ok (.goto 4, 3) := by decide +kernel
theorem dse0_54 : decode jdk_42_method_66_code 54 = .ok (.iconst 0, 1) := by decide +kernel
theorem dse0_55 : decode jdk_42_method_66_code 55 = .ok (.ireturn, 1) := by decide +kernel
theorem pn_se0 : plainName "java/lang/String" = true := by first | (simp [plainName, overriddenIn]; done) | decide +kernel
theorem ef_se0 (m : MethodId) (x0 : Addr) (x1 : Addr) : entryFrame m #[(.ref x0), (.ref x1)] 3 = mkF m 0 #[.val (.ref x0), .val (.ref x1), .unset] [] := by first | (simp [entryFrame, mkF, argsToLocals, Value.category]; done) | rfl
def Qse0 (Z : State) (a1 : Addr) (a2 : Addr) (d1 : Addr) (d2 : Addr) (k1 : ClassId) (k2 : ClassId) (wc : Int32) (h0 : Heap) (n0 : Nat) (v : Option Value) (h : Heap) (L : List Loc) : Prop := v = some (.int (own_b (True))) ∧ Fr n0 L ∧ h = h0
set_option maxRecDepth 65536 in
set_option maxHeartbeats 40000000 in
theorem rmse0 (l : Launch) (Z : State) (a0 : Array Value) (hw : ∀ d ∈ tables_1, d.before a0 Z = true) (ws : List Jvm.Cond) (a1 : Addr) (a2 : Addr) (d1 : Addr) (d2 : Addr) (k1 : ClassId) (k2 : ClassId) (wc : Int32) (h0 : Heap) (n0 : Nat) (Z0 : n0 ≤ h0.size) (F0 : Old Z n0 h0) (F1 : Exa Z h0 a1 "java/lang/String") (F2 : Exa Z h0 a2 "java/lang/String") (F3 : Fld Z h0 a1 "java/lang/String" "coder" "B" (.int (0 : Int32))) (F4 : Fld Z h0 a2 "java/lang/String" "coder" "B" (.int (0 : Int32))) (F5 : Fld Z h0 a1 "java/lang/String" "value" "[B" (.ref d1)) (F6 : Fld Z h0 a2 "java/lang/String" "value" "[B" (.ref d2)) (F7 : Arv Z h0 d1 k1 .byte (0 : Int32) [] (.int 0)) (F8 : Arv Z h0 d2 k2 .byte (0 : Int32) [] (.int 0)) (SC : Sta Z Z.heap "java/lang/String" "COMPACT_STRINGS" "Z" (.int wc)) (HWC : ¬ (wc = 0)) (hne : ¬ ((.ref a1 : Value) = (.ref a2))) :
    MetFree l (⟨"java/lang/String", "equals", "(Ljava/lang/Object;)Z"⟩ : MethodName) (head1 (Jvm.Cond.code (⟨"java/lang/String", "equals", "(Ljava/lang/Object;)Z"⟩ : MethodName) jdk_42_method_66_code 3 (some .boolean) :: ws) ({ frames := 1, cells := 0, slots := 0, locals := 14 } : Room)) (fun a U => a = #[(.ref a1), (.ref a2)] ∧ Z.Warmed39 U.vm ∧ U.heap = h0) (fun _ _ _ _ _ => True) (fun _ U o U' => ∃ v L, o = .returned v ∧ Qse0 Z a1 a2 d1 d2 k1 k2 wc h0 n0 v U'.heap L ∧ FrameEnd U o U' L ({ frames := 1, cells := 0, slots := 0, locals := 14 } : Room).cells ({ frames := 1, cells := 0, slots := 0, locals := 14 } : Room).slots) := by
  refine MetFree.of_bodySF (plainFor_of_name pn_se0) hisR ?_
  intro p e s m args below meth c s₁ Bd hml0 hP hK
  obtain ⟨rfl, hZ, hh⟩ := hP
  have hx := Bd.exec
  have hby := Bd.bytes
  have hml : c.maxLocals = 3 := hml0
  have hown : s.vm.findClass "java/lang/String" = some m.cls := findClass_of_methodNamed Bd.named
  have hnm := (name_of_methodNamed Bd.named Bd.method).1
  have X0 : Stand p l e ({ frames := 1, cells := 0, slots := 0, locals := 14 } : Room) s m #[(.ref a1), (.ref a2)] below meth c s₁ [] 0 0 := Stand.of_body Bd
  have e0 : s₁.heap = h0 := by rw [← hh, Bd.state]; rfl
  have N0 := Fr.nil n0
  show own_R p.tables e below (own_P s (Qse0 Z a1 a2 d1 d2 k1 k2 wc h0 n0) ({ frames := 1, cells := 0, slots := 0, locals := 14 } : Room).cells ({ frames := 1, cells := 0, slots := 0, locals := 14 } : Room).slots) (s₁.setTop (entryFrame m #[(.ref a1), (.ref a2)] 3))
  refine own_f s₁ (mkF m 0 #[.val (.ref a1), .val (.ref a2), .unset] []) (fun t k => castTop (ef_se0 m a1 a2) k) ?_
  refine own_f s₁ (mkF m 1 #[.val (.ref a1), .val (.ref a2), .unset] [(.ref a1)]) (fun t k => XS.aloadN X0.here hx rfl (hb hby dse0_0) rfl rfl k) ?_
  refine own_f s₁ (mkF m 2 #[.val (.ref a1), .val (.ref a2), .unset] [(.ref a2), (.ref a1)]) (fun t k => XS.aloadN X0.here hx rfl (hb hby dse0_1) rfl rfl k) ?_
  refine own_f s₁ (mkF m 7 #[.val (.ref a1), .val (.ref a2), .unset] []) (fun t k => XT.acmpYes X0.here hx rfl (pc0 := 2) (pc' := 7) rfl (hb hby dse0_2) rfl rfl rfl (XT.aa_ne_t hne) (by decide) (by decide) k) ?_
  refine own_f s₁ (mkF m 8 #[.val (.ref a1), .val (.ref a2), .unset] [(.ref a2)]) (fun t k => XS.aloadN X0.here hx rfl (hb hby dse0_7) rfl rfl k) ?_
  obtain ⟨T1, X1, e1, st1⟩ := instY X0 hx hZ hown (own_w hw 35 rfl) e0 (Ins.self F2) (g := (mkF m 8 #[.val (.ref a1), .val (.ref a2), .unset] [(.ref a2)])) rfl rfl (hb hby dse0_8)
  refine own_f T1 (mkF m 11 #[.val (.ref a1), .val (.ref a2), .unset] [(.int (1 : Int32))]) st1 ?_
  refine own_f T1 (mkF m 14 #[.val (.ref a1), .val (.ref a2), .unset] []) (fun t k => XS.ifNo X1.here hx rfl (hb hby dse0_11) rfl (XT.i0_eq_f (by decide)) k) ?_
  refine own_f T1 (mkF m 15 #[.val (.ref a1), .val (.ref a2), .unset] [(.ref a2)]) (fun t k => XS.aloadN X1.here hx rfl (hb hby dse0_14) rfl rfl k) ?_
  obtain ⟨T2, X2, e2, st2⟩ := castY X1 hx hZ hown (own_w hw 35 rfl) e1 (Ins.self F2) (g := (mkF m 15 #[.val (.ref a1), .val (.ref a2), .unset] [(.ref a2)])) rfl rfl (hb hby dse0_15)
  refine own_f T2 (mkF m 18 #[.val (.ref a1), .val (.ref a2), .unset] [(.ref a2)]) st2 ?_
  refine own_f T2 (mkF m 19 #[.val (.ref a1), .val (.ref a2), .val (.ref a2)] []) (fun t k => XS.astoreN X2.here hx rfl (hb hby dse0_18) rfl rfl (l' := #[.val (.ref a1), .val (.ref a2), .val (.ref a2)]) rfl k) ?_
  have S3 : Sta Z h0 "java/lang/String" "COMPACT_STRINGS" "Z" (.int wc) := SC.ext F0.2
  obtain ⟨T3, X3, e3, st3⟩ := getS X2 hx hZ (host := "") hown (own_w hw 36 rfl) Via.refl e2 S3 (g := (mkF m 19 #[.val (.ref a1), .val (.ref a2), .val (.ref a2)] [])) rfl (hb hby dse0_19)
  refine own_f T3 (mkF m 22 #[.val (.ref a1), .val (.ref a2), .val (.ref a2)] [(.int wc)]) st3 ?_
  refine own_f T3 (mkF m 25 #[.val (.ref a1), .val (.ref a2), .val (.ref a2)] []) (fun t k => XS.ifNo X3.here hx rfl (hb hby dse0_22) rfl (XT.i0_eq_f HWC) k) ?_
  refine own_f T3 (mkF m 26 #[.val (.ref a1), .val (.ref a2), .val (.ref a2)] [(.ref a1)]) (fun t k => XS.aloadN X3.here hx rfl (hb hby dse0_25) rfl rfl k) ?_
  obtain ⟨T4, X4, e4, st4⟩ := getF X3 hx hZ hown (host := "") (Or.inl (own_w hw 29 rfl)) Via.refl e3 F3 (g := (mkF m 26 #[.val (.ref a1), .val (.ref a2), .val (.ref a2)] [(.ref a1)])) rfl rfl (hb hby dse0_26)
  refine own_f T4 (mkF m 29 #[.val (.ref a1), .val (.ref a2), .val (.ref a2)] [(.int (0 : Int32))]) st4 ?_
  refine own_f T4 (mkF m 30 #[.val (.ref a1), .val (.ref a2), .val (.ref a2)] [(.ref a2), (.int (0 : Int32))]) (fun t k => XS.aloadN X4.here hx rfl (hb hby dse0_29) rfl rfl k) ?_
  obtain ⟨T5, X5, e5, st5⟩ := getF X4 hx hZ hown (host := "") (Or.inl (own_w hw 29 rfl)) Via.refl e4 F4 (g := (mkF m 30 #[.val (.ref a1), .val (.ref a2), .val (.ref a2)] [(.ref a2), (.int (0 : Int32))])) rfl rfl (hb hby dse0_30)
  refine own_f T5 (mkF m 33 #[.val (.ref a1), .val (.ref a2), .val (.ref a2)] [(.int (0 : Int32)), (.int (0 : Int32))]) st5 ?_
  refine own_f T5 (mkF m 36 #[.val (.ref a1), .val (.ref a2), .val (.ref a2)] []) (fun t k => XS.icmpNo X5.here hx rfl (hb hby dse0_33) rfl (XT.ii_ne_f (by decide)) k) ?_
  refine own_f T5 (mkF m 37 #[.val (.ref a1), .val (.ref a2), .val (.ref a2)] [(.ref a1)]) (fun t k => XS.aloadN X5.here hx rfl (hb hby dse0_36) rfl rfl k) ?_
  obtain ⟨T6, X6, e6, st6⟩ := getF X5 hx hZ hown (host := "") (Or.inl (own_w hw 28 rfl)) Via.refl e5 F5 (g := (mkF m 37 #[.val (.ref a1), .val (.ref a2), .val (.ref a2)] [(.ref a1)])) rfl rfl (hb hby dse0_37)
  refine own_f T6 (mkF m 40 #[.val (.ref a1), .val (.ref a2), .val (.ref a2)] [(.ref d1)]) st6 ?_
  refine own_f T6 (mkF m 41 #[.val (.ref a1), .val (.ref a2), .val (.ref a2)] [(.ref a2), (.ref d1)]) (fun t k => XS.aloadN X6.here hx rfl (hb hby dse0_40) rfl rfl k) ?_
  obtain ⟨T7, X7, e7, st7⟩ := getF X6 hx hZ hown (host := "") (Or.inl (own_w hw 28 rfl)) Via.refl e6 F6 (g := (mkF m 41 #[.val (.ref a1), .val (.ref a2), .val (.ref a2)] [(.ref a2), (.ref d1)])) rfl rfl (hb hby dse0_41)
  refine own_f T7 (mkF m 44 #[.val (.ref a1), .val (.ref a2), .val (.ref a2)] [(.ref d2), (.ref d1)]) st7 ?_
  obtain ⟨_, _, ⟨T8, Lq8, kq_8, nq_8⟩, -, X8, ⟨Lc8, hQ8, lq8, yq8, zq8⟩, st8⟩ := Jvm.LawKit.callS X7 hx (y := (⟨"java/lang/StringLatin1", "equals", "([B[B)Z"⟩ : MethodName)) hown (mvT hZ (own_w hw 37 rfl)) (mvT hZ (own_w hw 38 rfl)) (mvT hZ (own_w hw 39 rfl)) (mvT hZ (own_w hw 40 rfl)) (by decide) (backOf (W := 0) (rml10 l Z a0 hw [] d1 d2 _ _ h0 n0 Z0 F7 F8) hZ (own_w hw 40 rfl) (own_w hw 39 rfl) (by decide) (by decide)) (g := (mkF m 44 #[.val (.ref a1), .val (.ref a2), .val (.ref a2)] [(.ref d2), (.ref d1)])) rfl (by rw [hml]; rfl) (argsL := [(.ref d1), (.ref d2)]) (rest := []) (lenOf pd__B_B_Z rfl) rfl (by show 2 * 0 + _ ≤ _; exact Nat.le_of_eq rfl) (hb hby dse0_44) (fun _ _ => ⟨rfl, e7, (by decide : 0 + 0 ≤ _), (by decide : 0 + 0 ≤ _)⟩)
  dsimp only [Pt.U, Pt.locs, Pt.cells, Pt.slots] at X8 lq8 yq8 zq8 st8 hQ8
  subst lq8 yq8 zq8
  obtain ⟨h8, e8⟩ : ∃ z, T8.heap = z := ⟨_, rfl⟩
  rw [e8] at hQ8
  unfold Ql10 at hQ8
  obtain ⟨rfl, Nq8, qh8⟩ := hQ8
  have N8 := Fr.app N0 Nq8
  rw [qh8] at e8
  refine own_f T8 (mkF m 47 #[.val (.ref a1), .val (.ref a2), .val (.ref a2)] [(.int (own_b (True)))]) st8 ?_
  by_cases hc9 : (own_b (True)) = 0
  · skip
    refine own_f T8 (mkF m 54 #[.val (.ref a1), .val (.ref a2), .val (.ref a2)] []) (fun t k => XS.ifYes X8.here hx rfl (pc0 := 47) (pc' := 54) rfl (hb hby dse0_47) rfl (XT.i0_eq_t hc9) (by decide) (by decide) k) ?_
    refine own_f T8 (mkF m 55 #[.val (.ref a1), .val (.ref a2), .val (.ref a2)] [(.int (0 : Int32))]) (fun t k => XT.iconstV X8.here hx rfl (0 : Int32) (hb hby dse0_54) (by decide) k) ?_
    obtain ⟨fs, hr, hrun, hended, hW, hsame⟩ := X8.leave (v := some (.int (0 : Int32))) (fun h => by rw [Bd.returns] at h; cases h)
    refine ⟨_, _, retN X8 hx (t := .boolean) Bd.returns (by simp) (hb hby dse0_55) hr, hrun, hended, _, _, rfl, ?_, ⟨_, rfl⟩, hW, hsame.mono (by decide) (by decide)⟩
    show Qse0 Z a1 a2 d1 d2 k1 k2 wc h0 n0 _ T8.heap _
    rw [e8]
    exact ⟨by rw [own_b0 hc9], N8, rfl⟩
  · skip
    refine own_f T8 (mkF m 50 #[.val (.ref a1), .val (.ref a2), .val (.ref a2)] []) (fun t k => XS.ifNo X8.here hx rfl (hb hby dse0_47) rfl (XT.i0_eq_f hc9) k) ?_
    refine own_f T8 (mkF m 51 #[.val (.ref a1), .val (.ref a2), .val (.ref a2)] [(.int (1 : Int32))]) (fun t k => XT.iconstV X8.here hx rfl (1 : Int32) (hb hby dse0_50) (by decide) k) ?_
    refine own_f T8 (mkF m 55 #[.val (.ref a1), .val (.ref a2), .val (.ref a2)] [(.int (1 : Int32))]) (fun t k => XS.goto X8.here hx rfl (pc0 := 51) (pc' := 55) rfl (hb hby dse0_51) (by decide) (by decide) k) ?_
    obtain ⟨fs, hr, hrun, hended, hW, hsame⟩ := X8.leave (v := some (.int (1 : Int32))) (fun h => by rw [Bd.returns] at h; cases h)
    refine ⟨_, _, retN X8 hx (t := .boolean) Bd.returns (by simp) (hb hby dse0_55) hr, hrun, hended, _, _, rfl, ?_, ⟨_, rfl⟩, hW, hsame.mono (by decide) (by decide)⟩
    show Qse0 Z a1 a2 d1 d2 k1 k2 wc h0 n0 _ T8.heap _
    rw [e8]
    exact ⟨by rw [own_b1 hc9], N8, rfl⟩
theorem dse1_0 : decode jdk_42_method_66_code 0 = .ok (.aload_n 0, 1) := by decide +kernel
theorem dse1_1 : decode jdk_42_method_66_code 1 = .ok (.aload_n 1, 1) := by decide +kernel
theorem dse1_2 : decode jdk_42_method_66_code 2 = .ok (.if_acmp .ne 5, 3) := by decide +kernel
theorem dse1_7 : decode jdk_42_method_66_code 7 = .ok (.aload_n 1, 1) := by decide +kernel
theorem dse1_8 : decode jdk_42_method_66_code 8 = .ok (.instanceof 10, 3) := by decide +kernel
theorem dse1_11 : decode jdk_42_method_66_code 11 = .ok (.ifCond .eq 43, 3) := by decide +kernel
theorem dse1_14 : decode jdk_42_method_66_code 14 = .ok (.aload_n 1, 1) := by decide +kernel
theorem dse1_15 : decode jdk_42_method_66_code 15 = .ok (.checkcast 10, 3) := by decide +kernel
theorem dse1_18 : decode jdk_42_method_66_code 18 = .ok (.astore_n 2, 1) := by decide +kernel
theorem dse1_19 : decode jdk_42_method_66_code 19 = .ok (.getstatic 38, 3) := by decide +kernel
theorem dse1_22 : decode jdk_42_method_66_code 22 = .ok (.ifCond .eq 14, 3) := by decide +kernel
theorem dse1_25 : decode jdk_42_method_66_code 25 = .ok (.aload_n 0, 1) := by decide +kernel
theorem dse1_26 : decode jdk_42_method_66_code 26 = .ok (.getfield 15, 3) := by decide +kernel
theorem dse1_29 : decode jdk_42_method_66_code 29 = .ok (.aload_n 2, 1) := by decide +kernel
theorem dse1_30 : decode jdk_42_method_66_code 30 = .ok (.getfield 15, 3) := by decide +kernel
theorem dse1_33 : decode jdk_42_method_66_code 33 = .ok (.if_icmp .ne 21, 3) := by decide +kernel
theorem dse1_36 : decode jdk_42_method_66_code 36 = .ok (.aload_n 0, 1) := by decide +kernel
theorem dse1_37 : decode jdk_42_method_66_code 37 = .ok (.getfield 9, 3) := by decide +kernel
theorem dse1_40 : decode jdk_42_method_66_code 40 = .ok (.aload_n 2, 1) := by decide +kernel
theorem dse1_41 : decode jdk_42_method_66_code 41 = .ok (.getfield 9, 3) := by decide +kernel
theorem dse1_44 : decode jdk_42_method_66_code 44 = .ok (.invokestatic 541, 3) := by decide +kernel
theorem dse1_47 : decode jdk_42_method_66_code 47 = .ok (.ifCond .eq 7, 3) := by decide +kernel
theorem dse1_50 : decode jdk_42_method_66_code 50 = .ok (.iconst 1, 1) := by decide +kernel
theorem dse1_51 : decode jdk_42_method_66_code 51 = .ok (.goto 4, 3) := by decide +kernel
theorem dse1_54 : decode jdk_42_method_66_code 54 = .ok (.iconst 0, 1) := by decide +kernel
theorem dse1_55 : decode jdk_42_method_66_code 55 = .ok (.ireturn, 1) := by decide +kernel
theorem pn_se1 : plainName "java/lang/String" = true := by first | (simp [plainName, overriddenIn]; done) | decide +kernel
theorem ef_se1 (m : MethodId) (x0 : Addr) (x1 : Addr) : entryFrame m #[(.ref x0), (.ref x1)] 3 = mkF m 0 #[.val (.ref x0), .val (.ref x1), .unset] [] := by first | (simp [entryFrame, mkF, argsToLocals, Value.category]; done) | rfl
def Qse1 (Z : State) (a1 : Addr) (a2 : Addr) (d1 : Addr) (d2 : Addr) (k1 : ClassId) (k2 : ClassId) (x0 : Int32) (y0 : Int32) (wc : Int32) (h0 : Heap) (n0 : Nat) (v : Option Value) (h : Heap) (L : List Loc) : Prop := v = some (.int (own_b (x0 = y0))) ∧ Fr n0 L ∧ h = h0
set_option maxRecDepth 65536 in
set_option maxHeartbeats 40000000 in
theorem rmse1 (l : Launch) (Z : State) (a0 : Array Value) (hw : ∀ d ∈ tables_1, d.before a0 Z = true) (ws : List Jvm.Cond) (a1 : Addr) (a2 : Addr) (d1 : Addr) (d2 : Addr) (k1 : ClassId) (k2 : ClassId) (x0 : Int32) (y0 : Int32) (wc : Int32) (h0 : Heap) (n0 : Nat) (Z0 : n0 ≤ h0.size) (F0 : Old Z n0 h0) (F1 : Exa Z h0 a1 "java/lang/String") (F2 : Exa Z h0 a2 "java/lang/String") (F3 : Fld Z h0 a1 "java/lang/String" "coder" "B" (.int (0 : Int32))) (F4 : Fld Z h0 a2 "java/lang/String" "coder" "B" (.int (0 : Int32))) (F5 : Fld Z h0 a1 "java/lang/String" "value" "[B" (.ref d1)) (F6 : Fld Z h0 a2 "java/lang/String" "value" "[B" (.ref d2)) (F7 : Arv Z h0 d1 k1 .byte (1 : Int32) [.int x0] (.int 0)) (F8 : Arv Z h0 d2 k2 .byte (1 : Int32) [.int y0] (.int 0)) (SC : Sta Z Z.heap "java/lang/String" "COMPACT_STRINGS" "Z" (.int wc)) (HWC : ¬ (wc = 0)) (hne : ¬ ((.ref a1 : Value) = (.ref a2))) :
    MetFree l (⟨"java/lang/String", "equals", "(Ljava/lang/Object;)Z"⟩ : MethodName) (head1 (Jvm.Cond.code (⟨"java/lang/String", "equals", "(Ljava/lang/Object;)Z"⟩ : MethodName) jdk_42_method_66_code 3 (some .boolean) :: ws) ({ frames := 1, cells := 0, slots := 0, locals := 14 } : Room)) (fun a U => a = #[(.ref a1), (.ref a2)] ∧ Z.Warmed39 U.vm ∧ U.heap = h0) (fun _ _ _ _ _ => True) (fun _ U o U' => ∃ v L, o = .returned v ∧ Qse1 Z a1 a2 d1 d2 k1 k2 x0 y0 wc h0 n0 v U'.heap L ∧ FrameEnd U o U' L ({ frames := 1, cells := 0, slots := 0, locals := 14 } : Room).cells ({ frames := 1, cells := 0, slots := 0, locals := 14 } : Room).slots) := by
  refine MetFree.of_bodySF (plainFor_of_name pn_se1) hisR ?_
  intro p e s m args below meth c s₁ Bd hml0 hP hK
  obtain ⟨rfl, hZ, hh⟩ := hP
  have hx := Bd.exec
  have hby := Bd.bytes
  have hml : c.maxLocals = 3 := hml0
  have hown : s.vm.findClass "java/lang/String" = some m.cls := findClass_of_methodNamed Bd.named
  have hnm := (name_of_methodNamed Bd.named Bd.method).1
  have X0 : Stand p l e ({ frames := 1, cells := 0, slots := 0, locals := 14 } : Room) s m #[(.ref a1), (.ref a2)] below meth c s₁ [] 0 0 := Stand.of_body Bd
  have e0 : s₁.heap = h0 := by rw [← hh, Bd.state]; rfl
  have N0 := Fr.nil n0
  show own_R p.tables e below (own_P s (Qse1 Z a1 a2 d1 d2 k1 k2 x0 y0 wc h0 n0) ({ frames := 1, cells := 0, slots := 0, locals := 14 } : Room).cells ({ frames := 1, cells := 0, slots := 0, locals := 14 } : Room).slots) (s₁.setTop (entryFrame m #[(.ref a1), (.ref a2)] 3))
  refine own_f s₁ (mkF m 0 #[.val (.ref a1), .val (.ref a2), .unset] []) (fun t k => castTop (ef_se1 m a1 a2) k) ?_
  refine own_f s₁ (mkF m 1 #[.val (.ref a1), .val (.ref a2), .unset] [(.ref a1)]) (fun t k => XS.aloadN X0.here hx rfl (hb hby dse1_0) rfl rfl k) ?_
  refine own_f s₁ (mkF m 2 #[.val (.ref a1), .val (.ref a2), .unset] [(.ref a2), (.ref a1)]) (fun t k => XS.aloadN X0.here hx rfl (hb hby dse1_1) rfl rfl k) ?_
  refine own_f s₁ (mkF m 7 #[.val (.ref a1), .val (.ref a2), .unset] []) (fun t k => XT.acmpYes X0.here hx rfl (pc0 := 2) (pc' := 7) rfl (hb hby dse1_2) rfl rfl rfl (XT.aa_ne_t hne) (by decide) (by decide) k) ?_
  refine own_f s₁ (mkF m 8 #[.val (.ref a1), .val (.ref a2), .unset] [(.ref a2)]) (fun t k => XS.aloadN X0.here hx rfl (hb hby dse1_7) rfl rfl k) ?_
  obtain ⟨T1, X1, e1, st1⟩ := instY X0 hx hZ hown (own_w hw 35 rfl) e0 (Ins.self F2) (g := (mkF m 8 #[.val (.ref a1), .val (.ref a2), .unset] [(.ref a2)])) rfl rfl (hb hby dse1_8)
  refine own_f T1 (mkF m 11 #[.val (.ref a1), .val (.ref a2), .unset] [(.int (1 : Int32))]) st1 ?_
  refine own_f T1 (mkF m 14 #[.val (.ref a1), .val (.ref a2), .unset] []) (fun t k => XS.ifNo X1.here hx rfl (hb hby dse1_11) rfl (XT.i0_eq_f (by decide)) k) ?_
  refine own_f T1 (mkF m 15 #[.val (.ref a1), .val (.ref a2), .unset] [(.ref a2)]) (fun t k => XS.aloadN X1.here hx rfl (hb hby dse1_14) rfl rfl k) ?_
  obtain ⟨T2, X2, e2, st2⟩ := castY X1 hx hZ hown (own_w hw 35 rfl) e1 (Ins.self F2) (g := (mkF m 15 #[.val (.ref a1), .val (.ref a2), .unset] [(.ref a2)])) rfl rfl (hb hby dse1_15)
  refine own_f T2 (mkF m 18 #[.val (.ref a1), .val (.ref a2), .unset] [(.ref a2)]) st2 ?_
  refine own_f T2 (mkF m 19 #[.val (.ref a1), .val (.ref a2), .val (.ref a2)] []) (fun t k => XS.astoreN X2.here hx rfl (hb hby dse1_18) rfl rfl (l' := #[.val (.ref a1), .val (.ref a2), .val (.ref a2)]) rfl k) ?_
  have S3 : Sta Z h0 "java/lang/String" "COMPACT_STRINGS" "Z" (.int wc) := SC.ext F0.2
  obtain ⟨T3, X3, e3, st3⟩ := getS X2 hx hZ (host := "") hown (own_w hw 36 rfl) Via.refl e2 S3 (g := (mkF m 19 #[.val (.ref a1), .val (.ref a2), .val (.ref a2)] [])) rfl (hb hby dse1_19)
  refine own_f T3 (mkF m 22 #[.val (.ref a1), .val (.ref a2), .val (.ref a2)] [(.int wc)]) st3 ?_
  refine own_f T3 (mkF m 25 #[.val (.ref a1), .val (.ref a2), .val (.ref a2)] []) (fun t k => XS.ifNo X3.here hx rfl (hb hby dse1_22) rfl (XT.i0_eq_f HWC) k) ?_
  refine own_f T3 (mkF m 26 #[.val (.ref a1), .val (.ref a2), .val (.ref a2)] [(.ref a1)]) (fun t k => XS.aloadN X3.here hx rfl (hb hby dse1_25) rfl rfl k) ?_
  obtain ⟨T4, X4, e4, st4⟩ := getF X3 hx hZ hown (host := "") (Or.inl (own_w hw 29 rfl)) Via.refl e3 F3 (g := (mkF m 26 #[.val (.ref a1), .val (.ref a2), .val (.ref a2)] [(.ref a1)])) rfl rfl (hb hby dse1_26)
  refine own_f T4 (mkF m 29 #[.val (.ref a1), .val (.ref a2), .val (.ref a2)] [(.int (0 : Int32))]) st4 ?_
  refine own_f T4 (mkF m 30 #[.val (.ref a1), .val (.ref a2), .val (.ref a2)] [(.ref a2), (.int (0 : Int32))]) (fun t k => XS.aloadN X4.here hx rfl (hb hby dse1_29) rfl rfl k) ?_
  obtain ⟨T5, X5, e5, st5⟩ := getF X4 hx hZ hown (host := "") (Or.inl (own_w hw 29 rfl)) Via.refl e4 F4 (g := (mkF m 30 #[.val (.ref a1), .val (.ref a2), .val (.ref a2)] [(.ref a2), (.int (0 : Int32))])) rfl rfl (hb hby dse1_30)
  refine own_f T5 (mkF m 33 #[.val (.ref a1), .val (.ref a2), .val (.ref a2)] [(.int (0 : Int32)), (.int (0 : Int32))]) st5 ?_
  refine own_f T5 (mkF m 36 #[.val (.ref a1), .val (.ref a2), .val (.ref a2)] []) (fun t k => XS.icmpNo X5.here hx rfl (hb hby dse1_33) rfl (XT.ii_ne_f (by decide)) k) ?_
  refine own_f T5 (mkF m 37 #[.val (.ref a1), .val (.ref a2), .val (.ref a2)] [(.ref a1)]) (fun t k => XS.aloadN X5.here hx rfl (hb hby dse1_36) rfl rfl k) ?_
  obtain ⟨T6, X6, e6, st6⟩ := getF X5 hx hZ hown (host := "") (Or.inl (own_w hw 28 rfl)) Via.refl e5 F5 (g := (mkF m 37 #[.val (.ref a1), .val (.ref a2), .val (.ref a2)] [(.ref a1)])) rfl rfl (hb hby dse1_37)
  refine own_f T6 (mkF m 40 #[.val (.ref a1), .val (.ref a2), .val (.ref a2)] [(.ref d1)]) st6 ?_
  refine own_f T6 (mkF m 41 #[.val (.ref a1), .val (.ref a2), .val (.ref a2)] [(.ref a2), (.ref d1)]) (fun t k => XS.aloadN X6.here hx rfl (hb hby dse1_40) rfl rfl k) ?_
  obtain ⟨T7, X7, e7, st7⟩ := getF X6 hx hZ hown (host := "") (Or.inl (own_w hw 28 rfl)) Via.refl e6 F6 (g := (mkF m 41 #[.val (.ref a1), .val (.ref a2), .val (.ref a2)] [(.ref a2), (.ref d1)])) rfl rfl (hb hby dse1_41)
  refine own_f T7 (mkF m 44 #[.val (.ref a1), .val (.ref a2), .val (.ref a2)] [(.ref d2), (.ref d1)]) st7 ?_
  obtain ⟨_, _, ⟨T8, Lq8, kq_8, nq_8⟩, -, X8, ⟨Lc8, hQ8, lq8, yq8, zq8⟩, st8⟩ := Jvm.LawKit.callS X7 hx (y := (⟨"java/lang/StringLatin1", "equals", "([B[B)Z"⟩ : MethodName)) hown (mvT hZ (own_w hw 37 rfl)) (mvT hZ (own_w hw 38 rfl)) (mvT hZ (own_w hw 39 rfl)) (mvT hZ (own_w hw 40 rfl)) (by decide) (backOf (W := 0) (rml11 l Z a0 hw [] d1 d2 _ _ _ _ h0 n0 Z0 F7 F8) hZ (own_w hw 40 rfl) (own_w hw 39 rfl) (by decide) (by decide)) (g := (mkF m 44 #[.val (.ref a1), .val (.ref a2), .val (.ref a2)] [(.ref d2), (.ref d1)])) rfl (by rw [hml]; rfl) (argsL := [(.ref d1), (.ref d2)]) (rest := []) (lenOf pd__B_B_Z rfl) rfl (by show 2 * 0 + _ ≤ _; exact Nat.le_of_eq rfl) (hb hby dse1_44) (fun _ _ => ⟨rfl, e7, (by decide : 0 + 0 ≤ _), (by decide : 0 + 0 ≤ _)⟩)
  dsimp only [Pt.U, Pt.locs, Pt.cells, Pt.slots] at X8 lq8 yq8 zq8 st8 hQ8
  subst lq8 yq8 zq8
  obtain ⟨h8, e8⟩ : ∃ z, T8.heap = z := ⟨_, rfl⟩
  rw [e8] at hQ8
  unfold Ql11 at hQ8
  obtain ⟨rfl, Nq8, qh8⟩ := hQ8
  have N8 := Fr.app N0 Nq8
  rw [qh8] at e8
  refine own_f T8 (mkF m 47 #[.val (.ref a1), .val (.ref a2), .val (.ref a2)] [(.int (own_b (x0 = y0)))]) st8 ?_
  by_cases hc9 : (own_b (x0 = y0)) = 0
  · skip
    refine own_f T8 (mkF m 54 #[.val (.ref a1), .val (.ref a2), .val (.ref a2)] []) (fun t k => XS.ifYes X8.here hx rfl (pc0 := 47) (pc' := 54) rfl (hb hby dse1_47) rfl (XT.i0_eq_t hc9) (by decide) (by decide) k) ?_
    refine own_f T8 (mkF m 55 #[.val (.ref a1), .val (.ref a2), .val (.ref a2)] [(.int (0 : Int32))]) (fun t k => XT.iconstV X8.here hx rfl (0 : Int32) (hb hby dse1_54) (by decide) k) ?_
    obtain ⟨fs, hr, hrun, hended, hW, hsame⟩ := X8.leave (v := some (.int (0 : Int32))) (fun h => by rw [Bd.returns] at h; cases h)
    refine ⟨_, _, retN X8 hx (t := .boolean) Bd.returns (by simp) (hb hby dse1_55) hr, hrun, hended, _, _, rfl, ?_, ⟨_, rfl⟩, hW, hsame.mono (by decide) (by decide)⟩
    show Qse1 Z a1 a2 d1 d2 k1 k2 x0 y0 wc h0 n0 _ T8.heap _
    rw [e8]
    exact ⟨by rw [own_b0 hc9], N8, rfl⟩
  · skip
    refine own_f T8 (mkF m 50 #[.val (.ref a1), .val (.ref a2), .val (.ref a2)] []) (fun t k => XS.ifNo X8.here hx rfl (hb hby dse1_47) rfl (XT.i0_eq_f hc9) k) ?_
    refine own_f T8 (mkF m 51 #[.val (.ref a1), .val (.ref a2), .val (.ref a2)] [(.int (1 : Int32))]) (fun t k => XT.iconstV X8.here hx rfl (1 : Int32) (hb hby dse1_50) (by decide) k) ?_
    refine own_f T8 (mkF m 55 #[.val (.ref a1), .val (.ref a2), .val (.ref a2)] [(.int (1 : Int32))]) (fun t k => XS.goto X8.here hx rfl (pc0 := 51) (pc' := 55) rfl (hb hby dse1_51) (by decide) (by decide) k) ?_
    obtain ⟨fs, hr, hrun, hended, hW, hsame⟩ := X8.leave (v := some (.int (1 : Int32))) (fun h => by rw [Bd.returns] at h; cases h)
    refine ⟨_, _, retN X8 hx (t := .boolean) Bd.returns (by simp) (hb hby dse1_55) hr, hrun, hended, _, _, rfl, ?_, ⟨_, rfl⟩, hW, hsame.mono (by decide) (by decide)⟩
    show Qse1 Z a1 a2 d1 d2 k1 k2 x0 y0 wc h0 n0 _ T8.heap _
    rw [e8]
    exact ⟨by rw [own_b1 hc9], N8, rfl⟩
theorem dse2_0 : decode jdk_42_method_66_code 0 = .ok (.aload_n 0, 1) := by decide +kernel
theorem dse2_1 : decode jdk_42_method_66_code 1 = .ok (.aload_n 1, 1) := by decide +kernel
theorem dse2_2 : decode jdk_42_method_66_code 2 = .ok (.if_acmp .ne 5, 3) := by decide +kernel
theorem dse2_7 : decode jdk_42_method_66_code 7 = .ok (.aload_n 1, 1) := by decide +kernel
theorem dse2_8 : decode jdk_42_method_66_code 8 = .ok (.instanceof 10, 3) := by decide +kernel
theorem dse2_11 : decode jdk_42_method_66_code 11 = .ok (.ifCond .eq 43, 3) := by decide +kernel
theorem dse2_14 : decode jdk_42_method_66_code 14 = .ok (.aload_n 1, 1) := by decide +kernel
theorem dse2_15 : decode jdk_42_method_66_code 15 = .ok (.checkcast 10, 3) := by decide +kernel
theorem dse2_18 : decode jdk_42_method_66_code 18 = .ok (.astore_n 2, 1) := by decide +kernel
theorem dse2_19 : decode jdk_42_method_66_code 19 = .ok (.getstatic 38, 3) := by decide +kernel
theorem dse2_22 : decode jdk_42_method_66_code 22 = .ok (.ifCond .eq 14, 3) := by decide +kernel
theorem dse2_25 : decode jdk_42_method_66_code 25 = .ok (.aload_n 0, 1) := by decide +kernel
theorem dse2_26 : decode jdk_42_method_66_code 26 = .ok (.getfield 15, 3) := by decide +kernel
theorem dse2_29 : decode jdk_42_method_66_code 29 = .ok (.aload_n 2, 1) := by decide +kernel
theorem dse2_30 : decode jdk_42_method_66_code 30 = .ok (.getfield 15, 3) := by decide +kernel
theorem dse2_33 : decode jdk_42_method_66_code 33 = .ok (.if_icmp .ne 21, 3) := by decide +kernel
theorem dse2_36 : decode jdk_42_method_66_code 36 = .ok (.aload_n 0, 1) := by decide +kernel
theorem dse2_37 : decode jdk_42_method_66_code 37 = .ok (.getfield 9, 3) := by decide +kernel
theorem dse2_40 : decode jdk_42_method_66_code 40 = .ok (.aload_n 2, 1) := by decide +kernel
theorem dse2_41 : decode jdk_42_method_66_code 41 = .ok (.getfield 9, 3) := by decide +kernel
theorem dse2_44 : decode jdk_42_method_66_code 44 = .ok (.invokestatic 541, 3) := by decide +kernel
theorem dse2_47 : decode jdk_42_method_66_code 47 = .ok (.ifCond .eq 7, 3) := by decide +kernel
theorem dse2_50 : decode jdk_42_method_66_code 50 = .ok (.iconst 1, 1) := by decide +kernel
theorem dse2_51 : decode jdk_42_method_66_code 51 = .ok (.goto 4, 3) := by decide +kernel
theorem dse2_54 : decode jdk_42_method_66_code 54 = .ok (.iconst 0, 1) := by decide +kernel
theorem dse2_55 : decode jdk_42_method_66_code 55 = .ok (.ireturn, 1) := by decide +kernel
theorem pn_se2 : plainName "java/lang/String" = true := by first | (simp [plainName, overriddenIn]; done) | decide +kernel
theorem ef_se2 (m : MethodId) (x0 : Addr) (x1 : Addr) : entryFrame m #[(.ref x0), (.ref x1)] 3 = mkF m 0 #[.val (.ref x0), .val (.ref x1), .unset] [] := by first | (simp [entryFrame, mkF, argsToLocals, Value.category]; done) | rfl
def Qse2 (Z : State) (a1 : Addr) (a2 : Addr) (d1 : Addr) (d2 : Addr) (k1 : ClassId) (k2 : ClassId) (x0 : Int32) (x1 : Int32) (y0 : Int32) (y1 : Int32) (wc : Int32) (h0 : Heap) (n0 : Nat) (v : Option Value) (h : Heap) (L : List Loc) : Prop := v = some (.int (own_b (x0 = y0 ∧ x1 = y1))) ∧ Fr n0 L ∧ h = h0
set_option maxRecDepth 65536 in
set_option maxHeartbeats 40000000 in
theorem rmse2 (l : Launch) (Z : State) (a0 : Array Value) (hw : ∀ d ∈ tables_1, d.before a0 Z = true) (ws : List Jvm.Cond) (a1 : Addr) (a2 : Addr) (d1 : Addr) (d2 : Addr) (k1 : ClassId) (k2 : ClassId) (x0 : Int32) (x1 : Int32) (y0 : Int32) (y1 : Int32) (wc : Int32) (h0 : Heap) (n0 : Nat) (Z0 : n0 ≤ h0.size) (F0 : Old Z n0 h0) (F1 : Exa Z h0 a1 "java/lang/String") (F2 : Exa Z h0 a2 "java/lang/String") (F3 : Fld Z h0 a1 "java/lang/String" "coder" "B" (.int (0 : Int32))) (F4 : Fld Z h0 a2 "java/lang/String" "coder" "B" (.int (0 : Int32))) (F5 : Fld Z h0 a1 "java/lang/String" "value" "[B" (.ref d1)) (F6 : Fld Z h0 a2 "java/lang/String" "value" "[B" (.ref d2)) (F7 : Arv Z h0 d1 k1 .byte (2 : Int32) [.int x0, .int x1] (.int 0)) (F8 : Arv Z h0 d2 k2 .byte (2 : Int32) [.int y0, .int y1] (.int 0)) (SC : Sta Z Z.heap "java/lang/String" "COMPACT_STRINGS" "Z" (.int wc)) (HWC : ¬ (wc = 0)) (hne : ¬ ((.ref a1 : Value) = (.ref a2))) :
    MetFree l (⟨"java/lang/String", "equals", "(Ljava/lang/Object;)Z"⟩ : MethodName) (head1 (Jvm.Cond.code (⟨"java/lang/String", "equals", "(Ljava/lang/Object;)Z"⟩ : MethodName) jdk_42_method_66_code 3 (some .boolean) :: ws) ({ frames := 1, cells := 0, slots := 0, locals := 14 } : Room)) (fun a U => a = #[(.ref a1), (.ref a2)] ∧ Z.Warmed39 U.vm ∧ U.heap = h0) (fun _ _ _ _ _ => True) (fun _ U o U' => ∃ v L, o = .returned v ∧ Qse2 Z a1 a2 d1 d2 k1 k2 x0 x1 y0 y1 wc h0 n0 v U'.heap L ∧ FrameEnd U o U' L ({ frames := 1, cells := 0, slots := 0, locals := 14 } : Room).cells ({ frames := 1, cells := 0, slots := 0, locals := 14 } : Room).slots) := by
  refine MetFree.of_bodySF (plainFor_of_name pn_se2) hisR ?_
  intro p e s m args below meth c s₁ Bd hml0 hP hK
  obtain ⟨rfl, hZ, hh⟩ := hP
  have hx := Bd.exec
  have hby := Bd.bytes
  have hml : c.maxLocals = 3 := hml0
  have hown : s.vm.findClass "java/lang/String" = some m.cls := findClass_of_methodNamed Bd.named
  have hnm := (name_of_methodNamed Bd.named Bd.method).1
  have X0 : Stand p l e ({ frames := 1, cells := 0, slots := 0, locals := 14 } : Room) s m #[(.ref a1), (.ref a2)] below meth c s₁ [] 0 0 := Stand.of_body Bd
  have e0 : s₁.heap = h0 := by rw [← hh, Bd.state]; rfl
  have N0 := Fr.nil n0
  show own_R p.tables e below (own_P s (Qse2 Z a1 a2 d1 d2 k1 k2 x0 x1 y0 y1 wc h0 n0) ({ frames := 1, cells := 0, slots := 0, locals := 14 } : Room).cells ({ frames := 1, cells := 0, slots := 0, locals := 14 } : Room).slots) (s₁.setTop (entryFrame m #[(.ref a1), (.ref a2)] 3))
  refine own_f s₁ (mkF m 0 #[.val (.ref a1), .val (.ref a2), .unset] []) (fun t k => castTop (ef_se2 m a1 a2) k) ?_
  refine own_f s₁ (mkF m 1 #[.val (.ref a1), .val (.ref a2), .unset] [(.ref a1)]) (fun t k => XS.aloadN X0.here hx rfl (hb hby dse2_0) rfl rfl k) ?_
  refine own_f s₁ (mkF m 2 #[.val (.ref a1), .val (.ref a2), .unset] [(.ref a2), (.ref a1)]) (fun t k => XS.aloadN X0.here hx rfl (hb hby dse2_1) rfl rfl k) ?_
  refine own_f s₁ (mkF m 7 #[.val (.ref a1), .val (.ref a2), .unset] []) (fun t k => XT.acmpYes X0.here hx rfl (pc0 := 2) (pc' := 7) rfl (hb hby dse2_2) rfl rfl rfl (XT.aa_ne_t hne) (by decide) (by decide) k) ?_
  refine own_f s₁ (mkF m 8 #[.val (.ref a1), .val (.ref a2), .unset] [(.ref a2)]) (fun t k => XS.aloadN X0.here hx rfl (hb hby dse2_7) rfl rfl k) ?_
  obtain ⟨T1, X1, e1, st1⟩ := instY X0 hx hZ hown (own_w hw 35 rfl) e0 (Ins.self F2) (g := (mkF m 8 #[.val (.ref a1), .val (.ref a2), .unset] [(.ref a2)])) rfl rfl (hb hby dse2_8)
  refine own_f T1 (mkF m 11 #[.val (.ref a1), .val (.ref a2), .unset] [(.int (1 : Int32))]) st1 ?_
  refine own_f T1 (mkF m 14 #[.val (.ref a1), .val (.ref a2), .unset] []) (fun t k => XS.ifNo X1.here hx rfl (hb hby dse2_11) rfl (XT.i0_eq_f (by decide)) k) ?_
  refine own_f T1 (mkF m 15 #[.val (.ref a1), .val (.ref a2), .unset] [(.ref a2)]) (fun t k => XS.aloadN X1.here hx rfl (hb hby dse2_14) rfl rfl k) ?_
  obtain ⟨T2, X2, e2, st2⟩ := castY X1 hx hZ hown (own_w hw 35 rfl) e1 (Ins.self F2) (g := (mkF m 15 #[.val (.ref a1), .val (.ref a2), .unset] [(.ref a2)])) rfl rfl (hb hby dse2_15)
  refine own_f T2 (mkF m 18 #[.val (.ref a1), .val (.ref a2), .unset] [(.ref a2)]) st2 ?_
  refine own_f T2 (mkF m 19 #[.val (.ref a1), .val (.ref a2), .val (.ref a2)] []) (fun t k => XS.astoreN X2.here hx rfl (hb hby dse2_18) rfl rfl (l' := #[.val (.ref a1), .val (.ref a2), .val (.ref a2)]) rfl k) ?_
  have S3 : Sta Z h0 "java/lang/String" "COMPACT_STRINGS" "Z" (.int wc) := SC.ext F0.2
  obtain ⟨T3, X3, e3, st3⟩ := getS X2 hx hZ (host := "") hown (own_w hw 36 rfl) Via.refl e2 S3 (g := (mkF m 19 #[.val (.ref a1), .val (.ref a2), .val (.ref a2)] [])) rfl (hb hby dse2_19)
  refine own_f T3 (mkF m 22 #[.val (.ref a1), .val (.ref a2), .val (.ref a2)] [(.int wc)]) st3 ?_
  refine own_f T3 (mkF m 25 #[.val (.ref a1), .val (.ref a2), .val (.ref a2)] []) (fun t k => XS.ifNo X3.here hx rfl (hb hby dse2_22) rfl (XT.i0_eq_f HWC) k) ?_
  refine own_f T3 (mkF m 26 #[.val (.ref a1), .val (.ref a2), .val (.ref a2)] [(.ref a1)]) (fun t k => XS.aloadN X3.here hx rfl (hb hby dse2_25) rfl rfl k) ?_
  obtain ⟨T4, X4, e4, st4⟩ := getF X3 hx hZ hown (host := "") (Or.inl (own_w hw 29 rfl)) Via.refl e3 F3 (g := (mkF m 26 #[.val (.ref a1), .val (.ref a2), .val (.ref a2)] [(.ref a1)])) rfl rfl (hb hby dse2_26)
  refine own_f T4 (mkF m 29 #[.val (.ref a1), .val (.ref a2), .val (.ref a2)] [(.int (0 : Int32))]) st4 ?_
  refine own_f T4 (mkF m 30 #[.val (.ref a1), .val (.ref a2), .val (.ref a2)] [(.ref a2), (.int (0 : Int32))]) (fun t k => XS.aloadN X4.here hx rfl (hb hby dse2_29) rfl rfl k) ?_
  obtain ⟨T5, X5, e5, st5⟩ := getF X4 hx hZ hown (host := "") (Or.inl (own_w hw 29 rfl)) Via.refl e4 F4 (g := (mkF m 30 #[.val (.ref a1), .val (.ref a2), .val (.ref a2)] [(.ref a2), (.int (0 : Int32))])) rfl rfl (hb hby dse2_30)
  refine own_f T5 (mkF m 33 #[.val (.ref a1), .val (.ref a2), .val (.ref a2)] [(.int (0 : Int32)), (.int (0 : Int32))]) st5 ?_
  refine own_f T5 (mkF m 36 #[.val (.ref a1), .val (.ref a2), .val (.ref a2)] []) (fun t k => XS.icmpNo X5.here hx rfl (hb hby dse2_33) rfl (XT.ii_ne_f (by decide)) k) ?_
  refine own_f T5 (mkF m 37 #[.val (.ref a1), .val (.ref a2), .val (.ref a2)] [(.ref a1)]) (fun t k => XS.aloadN X5.here hx rfl (hb hby dse2_36) rfl rfl k) ?_
  obtain ⟨T6, X6, e6, st6⟩ := getF X5 hx hZ hown (host := "") (Or.inl (own_w hw 28 rfl)) Via.refl e5 F5 (g := (mkF m 37 #[.val (.ref a1), .val (.ref a2), .val (.ref a2)] [(.ref a1)])) rfl rfl (hb hby dse2_37)
  refine own_f T6 (mkF m 40 #[.val (.ref a1), .val (.ref a2), .val (.ref a2)] [(.ref d1)]) st6 ?_
  refine own_f T6 (mkF m 41 #[.val (.ref a1), .val (.ref a2), .val (.ref a2)] [(.ref a2), (.ref d1)]) (fun t k => XS.aloadN X6.here hx rfl (hb hby dse2_40) rfl rfl k) ?_
  obtain ⟨T7, X7, e7, st7⟩ := getF X6 hx hZ hown (host := "") (Or.inl (own_w hw 28 rfl)) Via.refl e6 F6 (g := (mkF m 41 #[.val (.ref a1), .val (.ref a2), .val (.ref a2)] [(.ref a2), (.ref d1)])) rfl rfl (hb hby dse2_41)
  refine own_f T7 (mkF m 44 #[.val (.ref a1), .val (.ref a2), .val (.ref a2)] [(.ref d2), (.ref d1)]) st7 ?_
  obtain ⟨_, _, ⟨T8, Lq8, kq_8, nq_8⟩, -, X8, ⟨Lc8, hQ8, lq8, yq8, zq8⟩, st8⟩ := Jvm.LawKit.callS X7 hx (y := (⟨"java/lang/StringLatin1", "equals", "([B[B)Z"⟩ : MethodName)) hown (mvT hZ (own_w hw 37 rfl)) (mvT hZ (own_w hw 38 rfl)) (mvT hZ (own_w hw 39 rfl)) (mvT hZ (own_w hw 40 rfl)) (by decide) (backOf (W := 0) (rml12 l Z a0 hw [] d1 d2 _ _ _ _ _ _ h0 n0 Z0 F7 F8) hZ (own_w hw 40 rfl) (own_w hw 39 rfl) (by decide) (by decide)) (g := (mkF m 44 #[.val (.ref a1), .val (.ref a2), .val (.ref a2)] [(.ref d2), (.ref d1)])) rfl (by rw [hml]; rfl) (argsL := [(.ref d1), (.ref d2)]) (rest := []) (lenOf pd__B_B_Z rfl) rfl (by show 2 * 0 + _ ≤ _; exact Nat.le_of_eq rfl) (hb hby dse2_44) (fun _ _ => ⟨rfl, e7, (by decide : 0 + 0 ≤ _), (by decide : 0 + 0 ≤ _)⟩)
  dsimp only [Pt.U, Pt.locs, Pt.cells, Pt.slots] at X8 lq8 yq8 zq8 st8 hQ8
  subst lq8 yq8 zq8
  obtain ⟨h8, e8⟩ : ∃ z, T8.heap = z := ⟨_, rfl⟩
  rw [e8] at hQ8
  unfold Ql12 at hQ8
  obtain ⟨rfl, Nq8, qh8⟩ := hQ8
  have N8 := Fr.app N0 Nq8
  rw [qh8] at e8
  refine own_f T8 (mkF m 47 #[.val (.ref a1), .val (.ref a2), .val (.ref a2)] [(.int (own_b (x0 = y0 ∧ x1 = y1)))]) st8 ?_
  by_cases hc9 : (own_b (x0 = y0 ∧ x1 = y1)) = 0
  · skip
    refine own_f T8 (mkF m 54 #[.val (.ref a1), .val (.ref a2), .val (.ref a2)] []) (fun t k => XS.ifYes X8.here hx rfl (pc0 := 47) (pc' := 54) rfl (hb hby dse2_47) rfl (XT.i0_eq_t hc9) (by decide) (by decide) k) ?_
    refine own_f T8 (mkF m 55 #[.val (.ref a1), .val (.ref a2), .val (.ref a2)] [(.int (0 : Int32))]) (fun t k => XT.iconstV X8.here hx rfl (0 : Int32) (hb hby dse2_54) (by decide) k) ?_
    obtain ⟨fs, hr, hrun, hended, hW, hsame⟩ := X8.leave (v := some (.int (0 : Int32))) (fun h => by rw [Bd.returns] at h; cases h)
    refine ⟨_, _, retN X8 hx (t := .boolean) Bd.returns (by simp) (hb hby dse2_55) hr, hrun, hended, _, _, rfl, ?_, ⟨_, rfl⟩, hW, hsame.mono (by decide) (by decide)⟩
    show Qse2 Z a1 a2 d1 d2 k1 k2 x0 x1 y0 y1 wc h0 n0 _ T8.heap _
    rw [e8]
    exact ⟨by rw [own_b0 hc9], N8, rfl⟩
  · skip
    refine own_f T8 (mkF m 50 #[.val (.ref a1), .val (.ref a2), .val (.ref a2)] []) (fun t k => XS.ifNo X8.here hx rfl (hb hby dse2_47) rfl (XT.i0_eq_f hc9) k) ?_
    refine own_f T8 (mkF m 51 #[.val (.ref a1), .val (.ref a2), .val (.ref a2)] [(.int (1 : Int32))]) (fun t k => XT.iconstV X8.here hx rfl (1 : Int32) (hb hby dse2_50) (by decide) k) ?_
    refine own_f T8 (mkF m 55 #[.val (.ref a1), .val (.ref a2), .val (.ref a2)] [(.int (1 : Int32))]) (fun t k => XS.goto X8.here hx rfl (pc0 := 51) (pc' := 55) rfl (hb hby dse2_51) (by decide) (by decide) k) ?_
    obtain ⟨fs, hr, hrun, hended, hW, hsame⟩ := X8.leave (v := some (.int (1 : Int32))) (fun h => by rw [Bd.returns] at h; cases h)
    refine ⟨_, _, retN X8 hx (t := .boolean) Bd.returns (by simp) (hb hby dse2_55) hr, hrun, hended, _, _, rfl, ?_, ⟨_, rfl⟩, hW, hsame.mono (by decide) (by decide)⟩
    show Qse2 Z a1 a2 d1 d2 k1 k2 x0 x1 y0 y1 wc h0 n0 _ T8.heap _
    rw [e8]
    exact ⟨by rw [own_b1 hc9], N8, rfl⟩
def Qeq (Z : State) (n1 n2 c0 c1 d0 d1 : Int32) (h0 : Heap) (n0 : Nat) (v : Option Value) (h : Heap) (L : List Loc) : Prop := v = some (.int (own_eqS n1 n2 c0 c1 d0 d1)) ∧ Fr n0 L ∧ h = h0
theorem rmeq (l : Launch) (Z : State) (a0 : Array Value) (hw : ∀ d ∈ tables_1, d.before a0 Z = true) (ws : List Jvm.Cond) (a1 a2 : Addr) (n1 n2 c0 c1 d0 d1 wc : Int32) (h0 : Heap) (n0 : Nat) (Z0 : n0 ≤ h0.size) (F0 : Old Z n0 h0) (G1 : own_S Z h0 a1 n1 c0 c1) (G2 : own_S Z h0 a2 n2 d0 d1) (SC : Sta Z Z.heap "java/lang/String" "COMPACT_STRINGS" "Z" (.int wc)) (HWC : ¬ (wc = 0)) (hne : a1 ≠ a2) (hn1 : n1 = 0 ∨ n1 = 1 ∨ n1 = 2) (hn2 : n2 = 0 ∨ n2 = 1 ∨ n2 = 2) (B0 : own_B c0) (B1 : own_B c1) (D0 : own_B d0) (D1 : own_B d1) :
    MetFree l (⟨"java/lang/String", "equals", "(Ljava/lang/Object;)Z"⟩ : MethodName) (head1 (Jvm.Cond.code (⟨"java/lang/String", "equals", "(Ljava/lang/Object;)Z"⟩ : MethodName) jdk_42_method_66_code 3 (some .boolean) :: ws) ({ frames := 1, cells := 0, slots := 0, locals := 14 } : Room)) (fun a U => a = #[(.ref a1), (.ref a2)] ∧ Z.Warmed39 U.vm ∧ U.heap = h0) (fun _ _ _ _ _ => True) (fun _ U o U' => ∃ v L, o = .returned v ∧ Qeq Z n1 n2 c0 c1 d0 d1 h0 n0 v U'.heap L ∧ FrameEnd U o U' L ({ frames := 1, cells := 0, slots := 0, locals := 14 } : Room).cells ({ frames := 1, cells := 0, slots := 0, locals := 14 } : Room).slots) := by
  obtain ⟨t1, k1, E1, Fc1, Fv1, A1⟩ := G1
  obtain ⟨t2, k2, E2, Fc2, Fv2, A2⟩ := G2
  have hne' : ¬ ((.ref a1 : Value) = (.ref a2)) := fun q => hne (Value.ref.inj q)
  by_cases hz : n1 = n2
  · subst hz
    rcases hn1 with rfl | rfl | rfl
    · rw [own_vs0] at A1 A2
      have r := rmse0 l Z a0 hw ws a1 a2 t1 t2 k1 k2 wc h0 n0 Z0 F0 E1 E2 Fc1 Fc2 Fv1 Fv2 A1 A2 SC HWC hne'
      unfold Qse0 at r; unfold Qeq; rw [own_e0]; exact r
    · rw [own_vs1] at A1 A2
      have r := rmse1 l Z a0 hw ws a1 a2 t1 t2 k1 k2 _ _ wc h0 n0 Z0 F0 E1 E2 Fc1 Fc2 Fv1 Fv2 A1 A2 SC HWC hne'
      unfold Qse1 at r; unfold Qeq; rw [own_e1 B0 D0]; exact r
    · rw [own_vs2] at A1 A2
      have r := rmse2 l Z a0 hw ws a1 a2 t1 t2 k1 k2 _ _ _ _ wc h0 n0 Z0 F0 E1 E2 Fc1 Fc2 Fv1 Fv2 A1 A2 SC HWC hne'
      unfold Qse2 at r; unfold Qeq; rw [own_e2 B0 B1 D0 D1]; exact r
  · have r := rmsex l Z a0 hw ws a1 a2 t1 t2 k1 k2 n1 n2 _ _ wc h0 n0 Z0 F0 E1 E2 Fc1 Fc2 Fv1 Fv2 A1 A2 SC HWC hne' hz
    unfold Qsex at r; unfold Qeq; rw [own_ex hz]; exact r
theorem dmmnr_0 : decode prog_37_method_4_code 0 = .ok (.aload_n 0, 1) := by decide +kernel
theorem dmmnr_1 : decode prog_37_method_4_code 1 = .ok (.ifnull 15, 3) := by decide +kernel
theorem dmmnr_16 : decode prog_37_method_4_code 16 = .ok (.iconst 1, 1) := by decide +kernel
theorem dmmnr_17 : decode prog_37_method_4_code 17 = .ok (.goto 4, 3) := by decide +kernel
theorem dmmnr_21 : decode prog_37_method_4_code 21 = .ok (.ireturn, 1) := by decide +kernel
theorem pn_mmnr : plainName "com/example/demarcation/demarcation/SavepointName" = true := by first | (simp [plainName, overriddenIn]; done) | decide +kernel
theorem ef_mmnr (m : MethodId) (x1 : Value) (r1 : x1.isRef = true) : entryFrame m #[.null, x1] 2 = mkF m 0 #[.val .null, .val x1] [] := by rcases ref_cases r1 with rfl | ⟨y1, rfl⟩ <;> first | (simp [entryFrame, mkF, argsToLocals, Value.category]; done) | rfl
def Qmmnr (Z : State) (v2 : Value) (h0 : Heap) (n0 : Nat) (v : Option Value) (h : Heap) (L : List Loc) : Prop := v = some (.int (1 : Int32)) ∧ Fr n0 L ∧ h = h0
set_option maxRecDepth 65536 in
set_option maxHeartbeats 40000000 in
theorem rmmmnr (l : Launch) (Z : State) (a0 : Array Value) (hw : ∀ d ∈ tables_1, d.before a0 Z = true) (ws : List Jvm.Cond) (v2 : Value) (h0 : Heap) (n0 : Nat) (Z0 : n0 ≤ h0.size) (hr : v2.isRef = true) :
    MetFree l (⟨"com/example/demarcation/demarcation/SavepointName", "mayMatch", "(Ljava/lang/String;Ljava/lang/String;)Z"⟩ : MethodName) (head1 (Jvm.Cond.code (⟨"com/example/demarcation/demarcation/SavepointName", "mayMatch", "(Ljava/lang/String;Ljava/lang/String;)Z"⟩ : MethodName) prog_37_method_4_code 2 (some .boolean) :: ws) ({ frames := 0, cells := 0, slots := 0, locals := 0 } : Room)) (fun a U => a = #[.null, v2] ∧ Z.Warmed39 U.vm ∧ U.heap = h0) (fun _ _ _ _ _ => True) (fun _ U o U' => ∃ v L, o = .returned v ∧ Qmmnr Z v2 h0 n0 v U'.heap L ∧ FrameEnd U o U' L ({ frames := 0, cells := 0, slots := 0, locals := 0 } : Room).cells ({ frames := 0, cells := 0, slots := 0, locals := 0 } : Room).slots) := by
  refine MetFree.of_bodySF (plainFor_of_name pn_mmnr) hisR ?_
  intro p e s m args below meth c s₁ Bd hml0 hP hK
  obtain ⟨rfl, hZ, hh⟩ := hP
  have hx := Bd.exec
  have hby := Bd.bytes
  have hml : c.maxLocals = 2 := hml0
  have hown : s.vm.findClass "com/example/demarcation/demarcation/SavepointName" = some m.cls := findClass_of_methodNamed Bd.named
  have hnm := (name_of_methodNamed Bd.named Bd.method).1
  have X0 : Stand p l e ({ frames := 0, cells := 0, slots := 0, locals := 0 } : Room) s m #[.null, v2] below meth c s₁ [] 0 0 := Stand.of_body Bd
  have e0 : s₁.heap = h0 := by rw [← hh, Bd.state]; rfl
  have N0 := Fr.nil n0
  show own_R p.tables e below (own_P s (Qmmnr Z v2 h0 n0) ({ frames := 0, cells := 0, slots := 0, locals := 0 } : Room).cells ({ frames := 0, cells := 0, slots := 0, locals := 0 } : Room).slots) (s₁.setTop (entryFrame m #[.null, v2] 2))
  refine own_f s₁ (mkF m 0 #[.val .null, .val v2] []) (fun t k => castTop (ef_mmnr m v2 hr) k) ?_
  refine own_f s₁ (mkF m 1 #[.val .null, .val v2] [.null]) (fun t k => XS.aloadN X0.here hx rfl (hb hby dmmnr_0) rfl rfl k) ?_
  refine own_f s₁ (mkF m 16 #[.val .null, .val v2] []) (fun t k => XS.ifnullYes X0.here hx rfl (pc0 := 1) (pc' := 16) rfl (hb hby dmmnr_1) rfl (by decide) (by decide) k) ?_
  refine own_f s₁ (mkF m 17 #[.val .null, .val v2] [(.int (1 : Int32))]) (fun t k => XT.iconstV X0.here hx rfl (1 : Int32) (hb hby dmmnr_16) (by decide) k) ?_
  refine own_f s₁ (mkF m 21 #[.val .null, .val v2] [(.int (1 : Int32))]) (fun t k => XS.goto X0.here hx rfl (pc0 := 17) (pc' := 21) rfl (hb hby dmmnr_17) (by decide) (by decide) k) ?_
  obtain ⟨fs, hr, hrun, hended, hW, hsame⟩ := X0.leave (v := some (.int (1 : Int32))) (fun h => by rw [Bd.returns] at h; cases h)
  refine ⟨_, _, retN X0 hx (t := .boolean) Bd.returns (by simp) (hb hby dmmnr_21) hr, hrun, hended, _, _, rfl, ?_, ⟨_, rfl⟩, hW, hsame.mono (by decide) (by decide)⟩
  show Qmmnr Z v2 h0 n0 _ s₁.heap _
  rw [e0]
  exact ⟨rfl, N0, rfl⟩
theorem dmmrn_0 : decode prog_37_method_4_code 0 = .ok (.aload_n 0, 1) := by decide +kernel
theorem dmmrn_1 : decode prog_37_method_4_code 1 = .ok (.ifnull 15, 3) := by decide +kernel
theorem dmmrn_4 : decode prog_37_method_4_code 4 = .ok (.aload_n 1, 1) := by decide +kernel
theorem dmmrn_5 : decode prog_37_method_4_code 5 = .ok (.ifnull 11, 3) := by decide +kernel
theorem dmmrn_16 : decode prog_37_method_4_code 16 = .ok (.iconst 1, 1) := by decide +kernel
theorem dmmrn_17 : decode prog_37_method_4_code 17 = .ok (.goto 4, 3) := by decide +kernel
theorem dmmrn_21 : decode prog_37_method_4_code 21 = .ok (.ireturn, 1) := by decide +kernel
theorem pn_mmrn : plainName "com/example/demarcation/demarcation/SavepointName" = true := by first | (simp [plainName, overriddenIn]; done) | decide +kernel
theorem ef_mmrn (m : MethodId) (x0 : Addr) : entryFrame m #[(.ref x0), .null] 2 = mkF m 0 #[.val (.ref x0), .val .null] [] := by first | (simp [entryFrame, mkF, argsToLocals, Value.category]; done) | rfl
def Qmmrn (Z : State) (a1 : Addr) (h0 : Heap) (n0 : Nat) (v : Option Value) (h : Heap) (L : List Loc) : Prop := v = some (.int (1 : Int32)) ∧ Fr n0 L ∧ h = h0
set_option maxRecDepth 65536 in
set_option maxHeartbeats 40000000 in
theorem rmmmrn (l : Launch) (Z : State) (a0 : Array Value) (hw : ∀ d ∈ tables_1, d.before a0 Z = true) (ws : List Jvm.Cond) (a1 : Addr) (h0 : Heap) (n0 : Nat) (Z0 : n0 ≤ h0.size) :
    MetFree l (⟨"com/example/demarcation/demarcation/SavepointName", "mayMatch", "(Ljava/lang/String;Ljava/lang/String;)Z"⟩ : MethodName) (head1 (Jvm.Cond.code (⟨"com/example/demarcation/demarcation/SavepointName", "mayMatch", "(Ljava/lang/String;Ljava/lang/String;)Z"⟩ : MethodName) prog_37_method_4_code 2 (some .boolean) :: ws) ({ frames := 0, cells := 0, slots := 0, locals := 0 } : Room)) (fun a U => a = #[(.ref a1), .null] ∧ Z.Warmed39 U.vm ∧ U.heap = h0) (fun _ _ _ _ _ => True) (fun _ U o U' => ∃ v L, o = .returned v ∧ Qmmrn Z a1 h0 n0 v U'.heap L ∧ FrameEnd U o U' L ({ frames := 0, cells := 0, slots := 0, locals := 0 } : Room).cells ({ frames := 0, cells := 0, slots := 0, locals := 0 } : Room).slots) := by
  refine MetFree.of_bodySF (plainFor_of_name pn_mmrn) hisR ?_
  intro p e s m args below meth c s₁ Bd hml0 hP hK
  obtain ⟨rfl, hZ, hh⟩ := hP
  have hx := Bd.exec
  have hby := Bd.bytes
  have hml : c.maxLocals = 2 := hml0
  have hown : s.vm.findClass "com/example/demarcation/demarcation/SavepointName" = some m.cls := findClass_of_methodNamed Bd.named
  have hnm := (name_of_methodNamed Bd.named Bd.method).1
  have X0 : Stand p l e ({ frames := 0, cells := 0, slots := 0, locals := 0 } : Room) s m #[(.ref a1), .null] below meth c s₁ [] 0 0 := Stand.of_body Bd
  have e0 : s₁.heap = h0 := by rw [← hh, Bd.state]; rfl
  have N0 := Fr.nil n0
  show own_R p.tables e below (own_P s (Qmmrn Z a1 h0 n0) ({ frames := 0, cells := 0, slots := 0, locals := 0 } : Room).cells ({ frames := 0, cells := 0, slots := 0, locals := 0 } : Room).slots) (s₁.setTop (entryFrame m #[(.ref a1), .null] 2))
  refine own_f s₁ (mkF m 0 #[.val (.ref a1), .val .null] []) (fun t k => castTop (ef_mmrn m a1) k) ?_
  refine own_f s₁ (mkF m 1 #[.val (.ref a1), .val .null] [(.ref a1)]) (fun t k => XS.aloadN X0.here hx rfl (hb hby dmmrn_0) rfl rfl k) ?_
  refine own_f s₁ (mkF m 4 #[.val (.ref a1), .val .null] []) (fun t k => XS.ifnullNo X0.here hx rfl (hb hby dmmrn_1) rfl k) ?_
  refine own_f s₁ (mkF m 5 #[.val (.ref a1), .val .null] [.null]) (fun t k => XS.aloadN X0.here hx rfl (hb hby dmmrn_4) rfl rfl k) ?_
  refine own_f s₁ (mkF m 16 #[.val (.ref a1), .val .null] []) (fun t k => XS.ifnullYes X0.here hx rfl (pc0 := 5) (pc' := 16) rfl (hb hby dmmrn_5) rfl (by decide) (by decide) k) ?_
  refine own_f s₁ (mkF m 17 #[.val (.ref a1), .val .null] [(.int (1 : Int32))]) (fun t k => XT.iconstV X0.here hx rfl (1 : Int32) (hb hby dmmrn_16) (by decide) k) ?_
  refine own_f s₁ (mkF m 21 #[.val (.ref a1), .val .null] [(.int (1 : Int32))]) (fun t k => XS.goto X0.here hx rfl (pc0 := 17) (pc' := 21) rfl (hb hby dmmrn_17) (by decide) (by decide) k) ?_
  obtain ⟨fs, hr, hrun, hended, hW, hsame⟩ := X0.leave (v := some (.int (1 : Int32))) (fun h => by rw [Bd.returns] at h; cases h)
  refine ⟨_, _, retN X0 hx (t := .boolean) Bd.returns (by simp) (hb hby dmmrn_21) hr, hrun, hended, _, _, rfl, ?_, ⟨_, rfl⟩, hW, hsame.mono (by decide) (by decide)⟩
  show Qmmrn Z a1 h0 n0 _ s₁.heap _
  rw [e0]
  exact ⟨rfl, N0, rfl⟩
theorem dmmss_0 : decode prog_37_method_4_code 0 = .ok (.aload_n 0, 1) := by decide +kernel
theorem dmmss_1 : decode prog_37_method_4_code 1 = .ok (.ifnull 15, 3) := by decide +kernel
theorem dmmss_4 : decode prog_37_method_4_code 4 = .ok (.aload_n 1, 1) := by decide +kernel
theorem dmmss_5 : decode prog_37_method_4_code 5 = .ok (.ifnull 11, 3) := by decide +kernel
theorem dmmss_8 : decode prog_37_method_4_code 8 = .ok (.aload_n 0, 1) := by decide +kernel
theorem dmmss_9 : decode prog_37_method_4_code 9 = .ok (.aload_n 1, 1) := by decide +kernel
theorem dmmss_10 : decode prog_37_method_4_code 10 = .ok (.invokevirtual 25, 3) := by decide +kernel
theorem dmmss_13 : decode prog_37_method_4_code 13 = .ok (.ifCond .eq 7, 3) := by decide +kernel
theorem dmmss_16 : decode prog_37_method_4_code 16 = .ok (.iconst 1, 1) := by decide +kernel
theorem dmmss_17 : decode prog_37_method_4_code 17 = .ok (.goto 4, 3) := by decide +kernel
theorem dmmss_20 : decode prog_37_method_4_code 20 = .ok (.iconst 0, 1) := by decide +kernel
theorem dmmss_21 : decode prog_37_method_4_code 21 = .ok (.ireturn, 1) := by decide +kernel
theorem pn_mmss : plainName "com/example/demarcation/demarcation/SavepointName" = true := by first | (simp [plainName, overriddenIn]; done) | decide +kernel
theorem ef_mmss (m : MethodId) (x0 : Addr) (x1 : Addr) : entryFrame m #[(.ref x0), (.ref x1)] 2 = mkF m 0 #[.val (.ref x0), .val (.ref x1)] [] := by first | (simp [entryFrame, mkF, argsToLocals, Value.category]; done) | rfl
def Qmmss (Z : State) (a1 : Addr) (a2 : Addr) (m1 : Int32) (m2 : Int32) (c0 : Int32) (c1 : Int32) (d0 : Int32) (d1 : Int32) (wc : Int32) (h0 : Heap) (n0 : Nat) (v : Option Value) (h : Heap) (L : List Loc) : Prop := v = some (.int (own_eqS m1 m2 c0 c1 d0 d1)) ∧ Fr n0 L ∧ h = h0
set_option maxRecDepth 65536 in
set_option maxHeartbeats 40000000 in
theorem rmmmss (l : Launch) (Z : State) (a0 : Array Value) (hw : ∀ d ∈ tables_1, d.before a0 Z = true) (ws : List Jvm.Cond) (a1 : Addr) (a2 : Addr) (m1 : Int32) (m2 : Int32) (c0 : Int32) (c1 : Int32) (d0 : Int32) (d1 : Int32) (wc : Int32) (h0 : Heap) (n0 : Nat) (Z0 : n0 ≤ h0.size) (F0 : Old Z n0 h0) (G1 : own_S Z h0 a1 m1 c0 c1) (G2 : own_S Z h0 a2 m2 d0 d1) (SC : Sta Z Z.heap "java/lang/String" "COMPACT_STRINGS" "Z" (.int wc)) (HWC : ¬ (wc = 0)) (hne : a1 ≠ a2) (hn1 : m1 = 0 ∨ m1 = 1 ∨ m1 = 2) (hn2 : m2 = 0 ∨ m2 = 1 ∨ m2 = 2) (B0 : own_B c0) (B1 : own_B c1) (D0 : own_B d0) (D1 : own_B d1) :
    MetFree l (⟨"com/example/demarcation/demarcation/SavepointName", "mayMatch", "(Ljava/lang/String;Ljava/lang/String;)Z"⟩ : MethodName) (head1 (Jvm.Cond.code (⟨"com/example/demarcation/demarcation/SavepointName", "mayMatch", "(Ljava/lang/String;Ljava/lang/String;)Z"⟩ : MethodName) prog_37_method_4_code 2 (some .boolean) :: ws) ({ frames := 2, cells := 0, slots := 0, locals := 28 } : Room)) (fun a U => a = #[(.ref a1), (.ref a2)] ∧ Z.Warmed39 U.vm ∧ U.heap = h0) (fun _ _ _ _ _ => True) (fun _ U o U' => ∃ v L, o = .returned v ∧ Qmmss Z a1 a2 m1 m2 c0 c1 d0 d1 wc h0 n0 v U'.heap L ∧ FrameEnd U o U' L ({ frames := 2, cells := 0, slots := 0, locals := 28 } : Room).cells ({ frames := 2, cells := 0, slots := 0, locals := 28 } : Room).slots) := by
  refine MetFree.of_bodySF (plainFor_of_name pn_mmss) hisR ?_
  intro p e s m args below meth c s₁ Bd hml0 hP hK
  obtain ⟨rfl, hZ, hh⟩ := hP
  have hx := Bd.exec
  have hby := Bd.bytes
  have hml : c.maxLocals = 2 := hml0
  have hown : s.vm.findClass "com/example/demarcation/demarcation/SavepointName" = some m.cls := findClass_of_methodNamed Bd.named
  have hnm := (name_of_methodNamed Bd.named Bd.method).1
  have X0 : Stand p l e ({ frames := 2, cells := 0, slots := 0, locals := 28 } : Room) s m #[(.ref a1), (.ref a2)] below meth c s₁ [] 0 0 := Stand.of_body Bd
  have e0 : s₁.heap = h0 := by rw [← hh, Bd.state]; rfl
  have N0 := Fr.nil n0
  show own_R p.tables e below (own_P s (Qmmss Z a1 a2 m1 m2 c0 c1 d0 d1 wc h0 n0) ({ frames := 2, cells := 0, slots := 0, locals := 28 } : Room).cells ({ frames := 2, cells := 0, slots := 0, locals := 28 } : Room).slots) (s₁.setTop (entryFrame m #[(.ref a1), (.ref a2)] 2))
  refine own_f s₁ (mkF m 0 #[.val (.ref a1), .val (.ref a2)] []) (fun t k => castTop (ef_mmss m a1 a2) k) ?_
  refine own_f s₁ (mkF m 1 #[.val (.ref a1), .val (.ref a2)] [(.ref a1)]) (fun t k => XS.aloadN X0.here hx rfl (hb hby dmmss_0) rfl rfl k) ?_
  refine own_f s₁ (mkF m 4 #[.val (.ref a1), .val (.ref a2)] []) (fun t k => XS.ifnullNo X0.here hx rfl (hb hby dmmss_1) rfl k) ?_
  refine own_f s₁ (mkF m 5 #[.val (.ref a1), .val (.ref a2)] [(.ref a2)]) (fun t k => XS.aloadN X0.here hx rfl (hb hby dmmss_4) rfl rfl k) ?_
  refine own_f s₁ (mkF m 8 #[.val (.ref a1), .val (.ref a2)] []) (fun t k => XS.ifnullNo X0.here hx rfl (hb hby dmmss_5) rfl k) ?_
  obtain ⟨t1, k1, E1, Fc1, Fv1, A1⟩ := id G1
  refine own_f s₁ (mkF m 9 #[.val (.ref a1), .val (.ref a2)] [(.ref a1)]) (fun t k => XS.aloadN X0.here hx rfl (hb hby dmmss_8) rfl rfl k) ?_
  refine own_f s₁ (mkF m 10 #[.val (.ref a1), .val (.ref a2)] [(.ref a2), (.ref a1)]) (fun t k => XS.aloadN X0.here hx rfl (hb hby dmmss_9) rfl rfl k) ?_
  obtain ⟨cq1, kq1, qa1, qb1, qc1⟩ := isOf hZ e0 E1
  obtain ⟨_, _, ⟨T1, Lq1, kq_1, nq_1⟩, -, X1, ⟨Lc1, hQ1, lq1, yq1, zq1⟩, st1⟩ := X0.virtualBack hx (y := (⟨"java/lang/String", "equals", "(Ljava/lang/Object;)Z"⟩ : MethodName)) (z := (⟨"java/lang/String", "equals", "(Ljava/lang/Object;)Z"⟩ : MethodName)) hown (mvT hZ (own_w hw 30 rfl)) (mvT hZ (own_w hw 31 rfl)) (notFace_of_selects (args := #[]) (mvT hZ (own_w hw 33 rfl))) (mvT hZ (own_w hw 33 rfl)) (mvT hZ (own_w hw 32 rfl)) (by decide) (backOf (W := 0) (rmeq l Z a0 hw [] a1 a2 m1 m2 c0 c1 d0 d1 wc h0 n0 Z0 F0 G1 G2 SC HWC hne hn1 hn2 B0 B1 D0 D1) hZ (own_w hw 34 rfl) (own_w hw 10 rfl) (by decide) (by decide)) qa1 qc1 (g := (mkF m 10 #[.val (.ref a1), .val (.ref a2)] [(.ref a2), (.ref a1)])) rfl (by rw [hml]; rfl) (Steps.refl _) (argsL := [(.ref a2)]) (rest := []) (lenOf pd__Ljava_lang_Object_Z rfl) rfl (by show 2 * 0 + _ ≤ _; exact Nat.le_of_eq rfl) (hb hby dmmss_10) (fun _ _ => ⟨rfl, e0, (by decide : 0 + 0 ≤ _), (by decide : 0 + 0 ≤ _)⟩)
  dsimp only [Pt.U, Pt.locs, Pt.cells, Pt.slots] at X1 lq1 yq1 zq1 st1 hQ1
  subst lq1 yq1 zq1
  obtain ⟨h1, e1⟩ : ∃ z, T1.heap = z := ⟨_, rfl⟩
  rw [e1] at hQ1
  unfold Qeq at hQ1
  obtain ⟨rfl, Nq1, q1⟩ := hQ1
  have N1 := Fr.app N0 Nq1
  rw [q1] at e1
  refine own_g T1 (mkF m 13 #[.val (.ref a1), .val (.ref a2)] [(.int (own_eqS m1 m2 c0 c1 d0 d1))]) st1 ?_
  by_cases hc2 : (own_eqS m1 m2 c0 c1 d0 d1) = 0
  · skip
    refine own_f T1 (mkF m 20 #[.val (.ref a1), .val (.ref a2)] []) (fun t k => XS.ifYes X1.here hx rfl (pc0 := 13) (pc' := 20) rfl (hb hby dmmss_13) rfl (XT.i0_eq_t hc2) (by decide) (by decide) k) ?_
    refine own_f T1 (mkF m 21 #[.val (.ref a1), .val (.ref a2)] [(.int (0 : Int32))]) (fun t k => XT.iconstV X1.here hx rfl (0 : Int32) (hb hby dmmss_20) (by decide) k) ?_
    obtain ⟨fs, hr, hrun, hended, hW, hsame⟩ := X1.leave (v := some (.int (0 : Int32))) (fun h => by rw [Bd.returns] at h; cases h)
    refine ⟨_, _, retN X1 hx (t := .boolean) Bd.returns (by simp) (hb hby dmmss_21) hr, hrun, hended, _, _, rfl, ?_, ⟨_, rfl⟩, hW, hsame.mono (by decide) (by decide)⟩
    show Qmmss Z a1 a2 m1 m2 c0 c1 d0 d1 wc h0 n0 _ T1.heap _
    rw [e1]
    exact ⟨by rw [own_b0 hc2], N1, rfl⟩
  · skip
    refine own_f T1 (mkF m 16 #[.val (.ref a1), .val (.ref a2)] []) (fun t k => XS.ifNo X1.here hx rfl (hb hby dmmss_13) rfl (XT.i0_eq_f hc2) k) ?_
    refine own_f T1 (mkF m 17 #[.val (.ref a1), .val (.ref a2)] [(.int (1 : Int32))]) (fun t k => XT.iconstV X1.here hx rfl (1 : Int32) (hb hby dmmss_16) (by decide) k) ?_
    refine own_f T1 (mkF m 21 #[.val (.ref a1), .val (.ref a2)] [(.int (1 : Int32))]) (fun t k => XS.goto X1.here hx rfl (pc0 := 17) (pc' := 21) rfl (hb hby dmmss_17) (by decide) (by decide) k) ?_
    obtain ⟨fs, hr, hrun, hended, hW, hsame⟩ := X1.leave (v := some (.int (1 : Int32))) (fun h => by rw [Bd.returns] at h; cases h)
    refine ⟨_, _, retN X1 hx (t := .boolean) Bd.returns (by simp) (hb hby dmmss_21) hr, hrun, hended, _, _, rfl, ?_, ⟨_, rfl⟩, hW, hsame.mono (by decide) (by decide)⟩
    show Qmmss Z a1 a2 m1 m2 c0 c1 d0 d1 wc h0 n0 _ T1.heap _
    rw [e1]
    exact ⟨by rw [own_eqS1 hc2], N1, rfl⟩
theorem pn_0 : plainName "com/example/demarcation/demarcation/SavepointNameMayMatchPinLaw" = true := by first | (simp [plainName, overriddenIn]; done) | decide +kernel
theorem ef_0 (m : MethodId) (x0 : Int32) (x1 : Int32) (x2 : Int32) (x3 : Int32) : entryFrame m #[(.int x0), (.int x1), (.int x2), (.int x3)] maxLocals = mkF m 0 #[.val (.int x0), .val (.int x1), .val (.int x2), .val (.int x3), .unset, .unset, .unset, .unset, .unset, .unset, .unset, .unset, .unset, .unset, .unset] [] := by first | (simp [entryFrame, mkF, argsToLocals, Value.category, maxLocals]; done) | rfl
def Q0 (Z : State) (p1 : Int32) (p2 : Int32) (p3 : Int32) (p4 : Int32) (wc : Int32) (h0 : Heap) (n0 : Nat) (v : Option Value) (h : Heap) (L : List Loc) : Prop := v = some (.int 1) ∧ Fr n0 L
set_option maxRecDepth 65536 in
set_option maxHeartbeats 40000000 in
theorem rm0 (l : Launch) (Z : State) (a0 : Array Value) (hw : ∀ d ∈ tables_1, d.before a0 Z = true) (ws : List Jvm.Cond) (p1 : Int32) (p2 : Int32) (p3 : Int32) (p4 : Int32) (wc : Int32) (h0 : Heap) (n0 : Nat) (Z0 : n0 ≤ h0.size) (F0 : Old Z n0 h0) (SC : Sta Z Z.heap "java/lang/String" "COMPACT_STRINGS" "Z" (.int wc)) (HWC : ¬ (wc = 0)) :
    MetFree l x (head1 (Jvm.Cond.code x code maxLocals ret :: ws) room_1) (fun a U => a = #[(.int p1), (.int p2), (.int p3), (.int p4)] ∧ Z.Warmed39 U.vm ∧ U.heap = h0 ∧ CHv Z own_EL U.vm h0) (fun _ _ _ _ _ => True) (fun _ U o U' => ∃ v L, o = .returned v ∧ Q0 Z p1 p2 p3 p4 wc h0 n0 v U'.heap L ∧ ReturnedEndW U o U' L room_1.cells room_1.slots) := by
  refine MetFree.of_bodySF (plainFor_of_name pn_0) hisR ?_
  intro p e s m args below meth c s₁ Bd hml0 hP hK
  obtain ⟨rfl, hZ, hh, hCH⟩ := hP
  have hx := Bd.exec
  have hby := Bd.bytes
  have hml : c.maxLocals = 15 := hml0
  have hown : s.vm.findClass "com/example/demarcation/demarcation/SavepointNameMayMatchPinLaw" = some m.cls := findClass_of_methodNamed Bd.named
  have hnm := (name_of_methodNamed Bd.named Bd.method).1
  have X0 : Stand p l e room_1 s m #[(.int p1), (.int p2), (.int p3), (.int p4)] below meth c s₁ [] 0 0 := Stand.of_body Bd
  have e0 : s₁.heap = h0 := by rw [← hh, Bd.state]; rfl
  have N0 := Fr.nil n0
  have hZ0 := hZ
  have hown0 := hown
  have hS : s.Since s.vm 0 := (State.WarmedH.refl s).since 0
  have hk : 0 ≤ h0.size := Nat.zero_le _
  have hR : CHr Z own_EL s.vm h0 s.vm h0 := CHr.refl hCH
  show own_R p.tables e below (own_PW s (Q0 Z p1 p2 p3 p4 wc h0 n0) room_1.cells room_1.slots) (s₁.setTop (entryFrame m #[(.int p1), (.int p2), (.int p3), (.int p4)] maxLocals))
  refine own_f s₁ (mkF m 0 #[.val (.int p1), .val (.int p2), .val (.int p3), .val (.int p4), .unset, .unset, .unset, .unset, .unset, .unset, .unset, .unset, .unset, .unset, .unset] []) (fun t k => castTop (ef_0 m p1 p2 p3 p4) k) ?_
  refine own_f s₁ (mkF m 1 #[.val (.int p1), .val (.int p2), .val (.int p3), .val (.int p4), .unset, .unset, .unset, .unset, .unset, .unset, .unset, .unset, .unset, .unset, .unset] [(.int p1)]) (fun t k => XS.iloadN X0.here hx rfl (hb hby at_0) rfl k) ?_
  refine own_f s₁ (mkF m 2 #[.val (.int p1), .val (.int p2), .val (.int p3), .val (.int p4), .unset, .unset, .unset, .unset, .unset, .unset, .unset, .unset, .unset, .unset, .unset] [(.int (3 : Int32)), (.int p1)]) (fun t k => XT.iconstV X0.here hx rfl (3 : Int32) (hb hby at_1) (by decide) k) ?_
  refine own_f s₁ (mkF m 3 #[.val (.int p1), .val (.int p2), .val (.int p3), .val (.int p4), .unset, .unset, .unset, .unset, .unset, .unset, .unset, .unset, .unset, .unset, .unset] [(.int (p1 &&& (3 : Int32)))]) (fun t k => XS.iand X0.here hx rfl (hb hby at_2) rfl k) ?_
  have jn1 : ∀ (zk : Int32), own_R p.tables e below (own_PW s (Q0 Z p1 p2 p3 p4 wc h0 n0) room_1.cells room_1.slots) (s₁.setTop (mkF m 11 #[.val (.int p1), .val (.int p2), .val (.int p3), .val (.int p4), .unset, .unset, .unset, .unset, .unset, .unset, .unset, .unset, .unset, .unset, .unset] [(.int zk)])) := by
    intro zk
    refine own_f s₁ (mkF m 13 #[.val (.int p1), .val (.int p2), .val (.int p3), .val (.int p4), .val (.int zk), .unset, .unset, .unset, .unset, .unset, .unset, .unset, .unset, .unset, .unset] []) (fun t k => XS.istore X0.here hx rfl (hb hby at_11) rfl (l' := #[.val (.int p1), .val (.int p2), .val (.int p3), .val (.int p4), .val (.int zk), .unset, .unset, .unset, .unset, .unset, .unset, .unset, .unset, .unset, .unset]) rfl k) ?_
    refine own_f s₁ (mkF m 14 #[.val (.int p1), .val (.int p2), .val (.int p3), .val (.int p4), .val (.int zk), .unset, .unset, .unset, .unset, .unset, .unset, .unset, .unset, .unset, .unset] [(.int p1)]) (fun t k => XS.iloadN X0.here hx rfl (hb hby at_13) rfl k) ?_
    refine own_f s₁ (mkF m 15 #[.val (.int p1), .val (.int p2), .val (.int p3), .val (.int p4), .val (.int zk), .unset, .unset, .unset, .unset, .unset, .unset, .unset, .unset, .unset, .unset] [(.int (2 : Int32)), (.int p1)]) (fun t k => XT.iconstV X0.here hx rfl (2 : Int32) (hb hby at_14) (by decide) k) ?_
    refine own_f s₁ (mkF m 16 #[.val (.int p1), .val (.int p2), .val (.int p3), .val (.int p4), .val (.int zk), .unset, .unset, .unset, .unset, .unset, .unset, .unset, .unset, .unset, .unset] [(.int ((p1.toUInt32 >>> ((2 : Int32) &&& 31).toUInt32).toInt32))]) (fun t k => XS.iushr X0.here hx rfl (hb hby at_15) rfl k) ?_
    refine own_f s₁ (mkF m 17 #[.val (.int p1), .val (.int p2), .val (.int p3), .val (.int p4), .val (.int zk), .unset, .unset, .unset, .unset, .unset, .unset, .unset, .unset, .unset, .unset] [(.int (3 : Int32)), (.int ((p1.toUInt32 >>> ((2 : Int32) &&& 31).toUInt32).toInt32))]) (fun t k => XT.iconstV X0.here hx rfl (3 : Int32) (hb hby at_16) (by decide) k) ?_
    refine own_f s₁ (mkF m 18 #[.val (.int p1), .val (.int p2), .val (.int p3), .val (.int p4), .val (.int zk), .unset, .unset, .unset, .unset, .unset, .unset, .unset, .unset, .unset, .unset] [(.int (((p1.toUInt32 >>> ((2 : Int32) &&& 31).toUInt32).toInt32) &&& (3 : Int32)))]) (fun t k => XS.iand X0.here hx rfl (hb hby at_17) rfl k) ?_
    have jn2 : ∀ (zo : Int32), own_R p.tables e below (own_PW s (Q0 Z p1 p2 p3 p4 wc h0 n0) room_1.cells room_1.slots) (s₁.setTop (mkF m 26 #[.val (.int p1), .val (.int p2), .val (.int p3), .val (.int p4), .val (.int zk), .unset, .unset, .unset, .unset, .unset, .unset, .unset, .unset, .unset, .unset] [(.int zo)])) := by
      intro zo
      refine own_f s₁ (mkF m 28 #[.val (.int p1), .val (.int p2), .val (.int p3), .val (.int p4), .val (.int zk), .val (.int zo), .unset, .unset, .unset, .unset, .unset, .unset, .unset, .unset, .unset] []) (fun t k => XS.istore X0.here hx rfl (hb hby at_26) rfl (l' := #[.val (.int p1), .val (.int p2), .val (.int p3), .val (.int p4), .val (.int zk), .val (.int zo), .unset, .unset, .unset, .unset, .unset, .unset, .unset, .unset, .unset]) rfl k) ?_
      refine own_f s₁ (mkF m 29 #[.val (.int p1), .val (.int p2), .val (.int p3), .val (.int p4), .val (.int zk), .val (.int zo), .unset, .unset, .unset, .unset, .unset, .unset, .unset, .unset, .unset] [(.int p1)]) (fun t k => XS.iloadN X0.here hx rfl (hb hby at_28) rfl k) ?_
      refine own_f s₁ (mkF m 30 #[.val (.int p1), .val (.int p2), .val (.int p3), .val (.int p4), .val (.int zk), .val (.int zo), .unset, .unset, .unset, .unset, .unset, .unset, .unset, .unset, .unset] [(.int (4 : Int32)), (.int p1)]) (fun t k => XT.iconstV X0.here hx rfl (4 : Int32) (hb hby at_29) (by decide) k) ?_
      refine own_f s₁ (mkF m 31 #[.val (.int p1), .val (.int p2), .val (.int p3), .val (.int p4), .val (.int zk), .val (.int zo), .unset, .unset, .unset, .unset, .unset, .unset, .unset, .unset, .unset] [(.int ((p1.toUInt32 >>> ((4 : Int32) &&& 31).toUInt32).toInt32))]) (fun t k => XS.iushr X0.here hx rfl (hb hby at_30) rfl k) ?_
      refine own_f s₁ (mkF m 32 #[.val (.int p1), .val (.int p2), .val (.int p3), .val (.int p4), .val (.int zk), .val (.int zo), .unset, .unset, .unset, .unset, .unset, .unset, .unset, .unset, .unset] [(.int (3 : Int32)), (.int ((p1.toUInt32 >>> ((4 : Int32) &&& 31).toUInt32).toInt32))]) (fun t k => XT.iconstV X0.here hx rfl (3 : Int32) (hb hby at_31) (by decide) k) ?_
      refine own_f s₁ (mkF m 33 #[.val (.int p1), .val (.int p2), .val (.int p3), .val (.int p4), .val (.int zk), .val (.int zo), .unset, .unset, .unset, .unset, .unset, .unset, .unset, .unset, .unset] [(.int (((p1.toUInt32 >>> ((4 : Int32) &&& 31).toUInt32).toInt32) &&& (3 : Int32)))]) (fun t k => XS.iand X0.here hx rfl (hb hby at_32) rfl k) ?_
      refine own_f s₁ (mkF m 34 #[.val (.int p1), .val (.int p2), .val (.int p3), .val (.int p4), .val (.int zk), .val (.int zo), .unset, .unset, .unset, .unset, .unset, .unset, .unset, .unset, .unset] [(.int (3 : Int32)), (.int (((p1.toUInt32 >>> ((4 : Int32) &&& 31).toUInt32).toInt32) &&& (3 : Int32)))]) (fun t k => XT.iconstV X0.here hx rfl (3 : Int32) (hb hby at_33) (by decide) k) ?_
      refine own_f s₁ (mkF m 35 #[.val (.int p1), .val (.int p2), .val (.int p3), .val (.int p4), .val (.int zk), .val (.int zo), .unset, .unset, .unset, .unset, .unset, .unset, .unset, .unset, .unset] [(.int ((((p1.toUInt32 >>> ((4 : Int32) &&& 31).toUInt32).toInt32) &&& (3 : Int32)) % (3 : Int32)))]) (fun t k => iremM X0 hx rfl (hb hby at_34) rfl (by decide) k) ?_
      refine own_f s₁ (mkF m 37 #[.val (.int p1), .val (.int p2), .val (.int p3), .val (.int p4), .val (.int zk), .val (.int zo), .val (.int ((((p1.toUInt32 >>> ((4 : Int32) &&& 31).toUInt32).toInt32) &&& (3 : Int32)) % (3 : Int32))), .unset, .unset, .unset, .unset, .unset, .unset, .unset, .unset] []) (fun t k => XS.istore X0.here hx rfl (hb hby at_35) rfl (l' := #[.val (.int p1), .val (.int p2), .val (.int p3), .val (.int p4), .val (.int zk), .val (.int zo), .val (.int ((((p1.toUInt32 >>> ((4 : Int32) &&& 31).toUInt32).toInt32) &&& (3 : Int32)) % (3 : Int32))), .unset, .unset, .unset, .unset, .unset, .unset, .unset, .unset]) rfl k) ?_
      obtain ⟨l1, jql1⟩ : ∃ z, z = ((((p1.toUInt32 >>> ((4 : Int32) &&& 31).toUInt32).toInt32) &&& (3 : Int32)) % (3 : Int32)) := ⟨_, rfl⟩
      have jl1 : l1 = 0 ∨ l1 = 1 ∨ l1 = 2 := by rw [jql1]; exact own_rem _
      rw [← jql1]
      refine own_f s₁ (mkF m 38 #[.val (.int p1), .val (.int p2), .val (.int p3), .val (.int p4), .val (.int zk), .val (.int zo), .val (.int l1), .unset, .unset, .unset, .unset, .unset, .unset, .unset, .unset] [(.int p1)]) (fun t k => XS.iloadN X0.here hx rfl (hb hby at_37) rfl k) ?_
      refine own_f s₁ (mkF m 41 #[.val (.int p1), .val (.int p2), .val (.int p3), .val (.int p4), .val (.int zk), .val (.int zo), .val (.int l1), .unset, .unset, .unset, .unset, .unset, .unset, .unset, .unset] [(.int (256 : Int32)), (.int p1)]) (fun t k => XT.sipushV X0.here hx rfl (256 : Int32) (hb hby at_38) (by decide) k) ?_
      refine own_f s₁ (mkF m 42 #[.val (.int p1), .val (.int p2), .val (.int p3), .val (.int p4), .val (.int zk), .val (.int zo), .val (.int l1), .unset, .unset, .unset, .unset, .unset, .unset, .unset, .unset] [(.int (p1 &&& (256 : Int32)))]) (fun t k => XS.iand X0.here hx rfl (hb hby at_41) rfl k) ?_
      have jn3 : ∀ (l2 : Int32) (jl2 : l2 = 0 ∨ l2 = 1 ∨ l2 = 2), own_R p.tables e below (own_PW s (Q0 Z p1 p2 p3 p4 wc h0 n0) room_1.cells room_1.slots) (s₁.setTop (mkF m 58 #[.val (.int p1), .val (.int p2), .val (.int p3), .val (.int p4), .val (.int zk), .val (.int zo), .val (.int l1), .unset, .unset, .unset, .unset, .unset, .unset, .unset, .unset] [(.int l2)])) := by
        intro l2 jl2
        refine own_f s₁ (mkF m 60 #[.val (.int p1), .val (.int p2), .val (.int p3), .val (.int p4), .val (.int zk), .val (.int zo), .val (.int l1), .val (.int l2), .unset, .unset, .unset, .unset, .unset, .unset, .unset] []) (fun t k => XS.istore X0.here hx rfl (hb hby at_58) rfl (l' := #[.val (.int p1), .val (.int p2), .val (.int p3), .val (.int p4), .val (.int zk), .val (.int zo), .val (.int l1), .val (.int l2), .unset, .unset, .unset, .unset, .unset, .unset, .unset]) rfl k) ?_
        refine own_f s₁ (mkF m 61 #[.val (.int p1), .val (.int p2), .val (.int p3), .val (.int p4), .val (.int zk), .val (.int zo), .val (.int l1), .val (.int l2), .unset, .unset, .unset, .unset, .unset, .unset, .unset] [(.int p2)]) (fun t k => XS.iloadN X0.here hx rfl (hb hby at_60) rfl k) ?_
        refine own_f s₁ (mkF m 64 #[.val (.int p1), .val (.int p2), .val (.int p3), .val (.int p4), .val (.int zk), .val (.int zo), .val (.int l1), .val (.int l2), .unset, .unset, .unset, .unset, .unset, .unset, .unset] [(.int (255 : Int32)), (.int p2)]) (fun t k => XT.sipushV X0.here hx rfl (255 : Int32) (hb hby at_61) (by decide) k) ?_
        refine own_f s₁ (mkF m 65 #[.val (.int p1), .val (.int p2), .val (.int p3), .val (.int p4), .val (.int zk), .val (.int zo), .val (.int l1), .val (.int l2), .unset, .unset, .unset, .unset, .unset, .unset, .unset] [(.int (p2 &&& (255 : Int32)))]) (fun t k => XS.iand X0.here hx rfl (hb hby at_64) rfl k) ?_
        refine own_f s₁ (mkF m 66 #[.val (.int p1), .val (.int p2), .val (.int p3), .val (.int p4), .val (.int zk), .val (.int zo), .val (.int l1), .val (.int l2), .unset, .unset, .unset, .unset, .unset, .unset, .unset] [(.int ((p2 &&& (255 : Int32)).toUInt32.toUInt16.toUInt32.toInt32))]) (fun t k => XS.i2c X0.here hx rfl (hb hby at_65) rfl k) ?_
        refine own_f s₁ (mkF m 68 #[.val (.int p1), .val (.int p2), .val (.int p3), .val (.int p4), .val (.int zk), .val (.int zo), .val (.int l1), .val (.int l2), .val (.int ((p2 &&& (255 : Int32)).toUInt32.toUInt16.toUInt32.toInt32)), .unset, .unset, .unset, .unset, .unset, .unset] []) (fun t k => XS.istore X0.here hx rfl (hb hby at_66) rfl (l' := #[.val (.int p1), .val (.int p2), .val (.int p3), .val (.int p4), .val (.int zk), .val (.int zo), .val (.int l1), .val (.int l2), .val (.int ((p2 &&& (255 : Int32)).toUInt32.toUInt16.toUInt32.toInt32)), .unset, .unset, .unset, .unset, .unset, .unset]) rfl k) ?_
        obtain ⟨k0, jqk0⟩ : ∃ z, z = ((p2 &&& (255 : Int32)).toUInt32.toUInt16.toUInt32.toInt32) := ⟨_, rfl⟩
        have jk0 : own_B k0 := by rw [jqk0]; exact own_Bc _
        rw [← jqk0]
        refine own_f s₁ (mkF m 69 #[.val (.int p1), .val (.int p2), .val (.int p3), .val (.int p4), .val (.int zk), .val (.int zo), .val (.int l1), .val (.int l2), .val (.int k0), .unset, .unset, .unset, .unset, .unset, .unset] [(.int p2)]) (fun t k => XS.iloadN X0.here hx rfl (hb hby at_68) rfl k) ?_
        refine own_f s₁ (mkF m 71 #[.val (.int p1), .val (.int p2), .val (.int p3), .val (.int p4), .val (.int zk), .val (.int zo), .val (.int l1), .val (.int l2), .val (.int k0), .unset, .unset, .unset, .unset, .unset, .unset] [(.int (8 : Int32)), (.int p2)]) (fun t k => XT.bipushV X0.here hx rfl (8 : Int32) (hb hby at_69) (by decide) k) ?_
        refine own_f s₁ (mkF m 72 #[.val (.int p1), .val (.int p2), .val (.int p3), .val (.int p4), .val (.int zk), .val (.int zo), .val (.int l1), .val (.int l2), .val (.int k0), .unset, .unset, .unset, .unset, .unset, .unset] [(.int ((p2.toUInt32 >>> ((8 : Int32) &&& 31).toUInt32).toInt32))]) (fun t k => XS.iushr X0.here hx rfl (hb hby at_71) rfl k) ?_
        refine own_f s₁ (mkF m 75 #[.val (.int p1), .val (.int p2), .val (.int p3), .val (.int p4), .val (.int zk), .val (.int zo), .val (.int l1), .val (.int l2), .val (.int k0), .unset, .unset, .unset, .unset, .unset, .unset] [(.int (255 : Int32)), (.int ((p2.toUInt32 >>> ((8 : Int32) &&& 31).toUInt32).toInt32))]) (fun t k => XT.sipushV X0.here hx rfl (255 : Int32) (hb hby at_72) (by decide) k) ?_
        refine own_f s₁ (mkF m 76 #[.val (.int p1), .val (.int p2), .val (.int p3), .val (.int p4), .val (.int zk), .val (.int zo), .val (.int l1), .val (.int l2), .val (.int k0), .unset, .unset, .unset, .unset, .unset, .unset] [(.int (((p2.toUInt32 >>> ((8 : Int32) &&& 31).toUInt32).toInt32) &&& (255 : Int32)))]) (fun t k => XS.iand X0.here hx rfl (hb hby at_75) rfl k) ?_
        refine own_f s₁ (mkF m 77 #[.val (.int p1), .val (.int p2), .val (.int p3), .val (.int p4), .val (.int zk), .val (.int zo), .val (.int l1), .val (.int l2), .val (.int k0), .unset, .unset, .unset, .unset, .unset, .unset] [(.int ((((p2.toUInt32 >>> ((8 : Int32) &&& 31).toUInt32).toInt32) &&& (255 : Int32)).toUInt32.toUInt16.toUInt32.toInt32))]) (fun t k => XS.i2c X0.here hx rfl (hb hby at_76) rfl k) ?_
        refine own_f s₁ (mkF m 79 #[.val (.int p1), .val (.int p2), .val (.int p3), .val (.int p4), .val (.int zk), .val (.int zo), .val (.int l1), .val (.int l2), .val (.int k0), .val (.int ((((p2.toUInt32 >>> ((8 : Int32) &&& 31).toUInt32).toInt32) &&& (255 : Int32)).toUInt32.toUInt16.toUInt32.toInt32)), .unset, .unset, .unset, .unset, .unset] []) (fun t k => XS.istore X0.here hx rfl (hb hby at_77) rfl (l' := #[.val (.int p1), .val (.int p2), .val (.int p3), .val (.int p4), .val (.int zk), .val (.int zo), .val (.int l1), .val (.int l2), .val (.int k0), .val (.int ((((p2.toUInt32 >>> ((8 : Int32) &&& 31).toUInt32).toInt32) &&& (255 : Int32)).toUInt32.toUInt16.toUInt32.toInt32)), .unset, .unset, .unset, .unset, .unset]) rfl k) ?_
        obtain ⟨k1, jqk1⟩ : ∃ z, z = ((((p2.toUInt32 >>> ((8 : Int32) &&& 31).toUInt32).toInt32) &&& (255 : Int32)).toUInt32.toUInt16.toUInt32.toInt32) := ⟨_, rfl⟩
        have jk1 : own_B k1 := by rw [jqk1]; exact own_Bc _
        rw [← jqk1]
        refine own_f s₁ (mkF m 80 #[.val (.int p1), .val (.int p2), .val (.int p3), .val (.int p4), .val (.int zk), .val (.int zo), .val (.int l1), .val (.int l2), .val (.int k0), .val (.int k1), .unset, .unset, .unset, .unset, .unset] [(.int p4)]) (fun t k => XS.iloadN X0.here hx rfl (hb hby at_79) rfl k) ?_
        refine own_f s₁ (mkF m 81 #[.val (.int p1), .val (.int p2), .val (.int p3), .val (.int p4), .val (.int zk), .val (.int zo), .val (.int l1), .val (.int l2), .val (.int k0), .val (.int k1), .unset, .unset, .unset, .unset, .unset] [(.int (1 : Int32)), (.int p4)]) (fun t k => XT.iconstV X0.here hx rfl (1 : Int32) (hb hby at_80) (by decide) k) ?_
        refine own_f s₁ (mkF m 82 #[.val (.int p1), .val (.int p2), .val (.int p3), .val (.int p4), .val (.int zk), .val (.int zo), .val (.int l1), .val (.int l2), .val (.int k0), .val (.int k1), .unset, .unset, .unset, .unset, .unset] [(.int (p4 &&& (1 : Int32)))]) (fun t k => XS.iand X0.here hx rfl (hb hby at_81) rfl k) ?_
        have jn4 : ∀ (o0 : Int32) (jo0 : own_B o0), own_R p.tables e below (own_PW s (Q0 Z p1 p2 p3 p4 wc h0 n0) room_1.cells room_1.slots) (s₁.setTop (mkF m 96 #[.val (.int p1), .val (.int p2), .val (.int p3), .val (.int p4), .val (.int zk), .val (.int zo), .val (.int l1), .val (.int l2), .val (.int k0), .val (.int k1), .unset, .unset, .unset, .unset, .unset] [(.int o0)])) := by
          intro o0 jo0
          refine own_f s₁ (mkF m 98 #[.val (.int p1), .val (.int p2), .val (.int p3), .val (.int p4), .val (.int zk), .val (.int zo), .val (.int l1), .val (.int l2), .val (.int k0), .val (.int k1), .val (.int o0), .unset, .unset, .unset, .unset] []) (fun t k => XS.istore X0.here hx rfl (hb hby at_96) rfl (l' := #[.val (.int p1), .val (.int p2), .val (.int p3), .val (.int p4), .val (.int zk), .val (.int zo), .val (.int l1), .val (.int l2), .val (.int k0), .val (.int k1), .val (.int o0), .unset, .unset, .unset, .unset]) rfl k) ?_
          refine own_f s₁ (mkF m 99 #[.val (.int p1), .val (.int p2), .val (.int p3), .val (.int p4), .val (.int zk), .val (.int zo), .val (.int l1), .val (.int l2), .val (.int k0), .val (.int k1), .val (.int o0), .unset, .unset, .unset, .unset] [(.int p4)]) (fun t k => XS.iloadN X0.here hx rfl (hb hby at_98) rfl k) ?_
          refine own_f s₁ (mkF m 100 #[.val (.int p1), .val (.int p2), .val (.int p3), .val (.int p4), .val (.int zk), .val (.int zo), .val (.int l1), .val (.int l2), .val (.int k0), .val (.int k1), .val (.int o0), .unset, .unset, .unset, .unset] [(.int (2 : Int32)), (.int p4)]) (fun t k => XT.iconstV X0.here hx rfl (2 : Int32) (hb hby at_99) (by decide) k) ?_
          refine own_f s₁ (mkF m 101 #[.val (.int p1), .val (.int p2), .val (.int p3), .val (.int p4), .val (.int zk), .val (.int zo), .val (.int l1), .val (.int l2), .val (.int k0), .val (.int k1), .val (.int o0), .unset, .unset, .unset, .unset] [(.int (p4 &&& (2 : Int32)))]) (fun t k => XS.iand X0.here hx rfl (hb hby at_100) rfl k) ?_
          have jn5 : ∀ (o1 : Int32) (jo1 : own_B o1), own_R p.tables e below (own_PW s (Q0 Z p1 p2 p3 p4 wc h0 n0) room_1.cells room_1.slots) (s₁.setTop (mkF m 118 #[.val (.int p1), .val (.int p2), .val (.int p3), .val (.int p4), .val (.int zk), .val (.int zo), .val (.int l1), .val (.int l2), .val (.int k0), .val (.int k1), .val (.int o0), .unset, .unset, .unset, .unset] [(.int o1)])) := by
            intro o1 jo1
            refine own_f s₁ (mkF m 120 #[.val (.int p1), .val (.int p2), .val (.int p3), .val (.int p4), .val (.int zk), .val (.int zo), .val (.int l1), .val (.int l2), .val (.int k0), .val (.int k1), .val (.int o0), .val (.int o1), .unset, .unset, .unset] []) (fun t k => XS.istore X0.here hx rfl (hb hby at_118) rfl (l' := #[.val (.int p1), .val (.int p2), .val (.int p3), .val (.int p4), .val (.int zk), .val (.int zo), .val (.int l1), .val (.int l2), .val (.int k0), .val (.int k1), .val (.int o0), .val (.int o1), .unset, .unset, .unset]) rfl k) ?_
            refine own_f s₁ (mkF m 122 #[.val (.int p1), .val (.int p2), .val (.int p3), .val (.int p4), .val (.int zk), .val (.int zo), .val (.int l1), .val (.int l2), .val (.int k0), .val (.int k1), .val (.int o0), .val (.int o1), .unset, .unset, .unset] [(.int zk)]) (fun t k => XS.iload X0.here hx rfl (hb hby at_120) rfl k) ?_
            by_cases hc6 : zk = 0
            · skip
              refine own_f s₁ (mkF m 129 #[.val (.int p1), .val (.int p2), .val (.int p3), .val (.int p4), .val (.int zk), .val (.int zo), .val (.int l1), .val (.int l2), .val (.int k0), .val (.int k1), .val (.int o0), .val (.int o1), .unset, .unset, .unset] []) (fun t k => XS.ifYes X0.here hx rfl (pc0 := 122) (pc' := 129) rfl (hb hby at_122) rfl (XT.i0_eq_t hc6) (by decide) (by decide) k) ?_
              refine own_f s₁ (mkF m 131 #[.val (.int p1), .val (.int p2), .val (.int p3), .val (.int p4), .val (.int zk), .val (.int zo), .val (.int l1), .val (.int l2), .val (.int k0), .val (.int k1), .val (.int o0), .val (.int o1), .unset, .unset, .unset] [(.int l1)]) (fun t k => XS.iload X0.here hx rfl (hb hby at_129) rfl k) ?_
              refine own_f s₁ (mkF m 133 #[.val (.int p1), .val (.int p2), .val (.int p3), .val (.int p4), .val (.int zk), .val (.int zo), .val (.int l1), .val (.int l2), .val (.int k0), .val (.int k1), .val (.int o0), .val (.int o1), .unset, .unset, .unset] [(.int k0), (.int l1)]) (fun t k => XS.iload X0.here hx rfl (hb hby at_131) rfl k) ?_
              refine own_f s₁ (mkF m 135 #[.val (.int p1), .val (.int p2), .val (.int p3), .val (.int p4), .val (.int zk), .val (.int zo), .val (.int l1), .val (.int l2), .val (.int k0), .val (.int k1), .val (.int o0), .val (.int o1), .unset, .unset, .unset] [(.int k1), (.int k0), (.int l1)]) (fun t k => XS.iload X0.here hx rfl (hb hby at_133) rfl k) ?_
              obtain ⟨_, _, ⟨T7, Lq7, kq_7, nq_7⟩, -, X7, hSn7, hgr7, ⟨Lc7, hQ7, lq7, yq7, zq7, hC7⟩, st7⟩ := callSS X0 hx (y := (⟨"com/example/demarcation/demarcation/SavepointNameMayMatchPinLaw", "mk", "(ICC)Ljava/lang/String;"⟩ : MethodName)) hown (mvT hZ (own_w hw 4 rfl)) (mvT hZ (own_w hw 5 rfl)) (mvT hZ (own_w hw 6 rfl)) (mvT hZ (own_w hw 7 rfl)) (by decide) (backOfSH (s := s) (vm0 := s.vm) (W := 0) (rmmk l Z a0 hw [] l1 k0 k1 wc h0 n0 Z0 F0 SC HWC jl1 jk0 jk1) hZ (own_w hw 7 rfl) (own_w hw 6 rfl) (by decide) (by decide) (own_EW hw) hR.1) (g := (mkF m 135 #[.val (.int p1), .val (.int p2), .val (.int p3), .val (.int p4), .val (.int zk), .val (.int zo), .val (.int l1), .val (.int l2), .val (.int k0), .val (.int k1), .val (.int o0), .val (.int o1), .unset, .unset, .unset] [(.int k1), (.int k0), (.int l1)])) rfl (by rw [hml]; rfl) (argsL := [(.int l1), (.int k0), (.int k1)]) (rest := []) (lenOf pd__ICC_Ljava_lang_String_ rfl) rfl (by show 2 * 0 + _ ≤ _; exact Nat.le_of_eq rfl) (hb hby at_135) (fun _ _ => ⟨rfl, e0, (by decide : 0 + 6 ≤ _), (by decide : 0 + 16 ≤ _)⟩)
              dsimp only [Pt.U, Pt.locs, Pt.cells, Pt.slots] at X7 lq7 yq7 zq7 st7 hQ7 hSn7 hgr7 hC7
              subst lq7 yq7 zq7
              obtain ⟨h7, e7⟩ : ∃ z, T7.heap = z := ⟨_, rfl⟩
              rw [e7] at hQ7 hC7
              have hS : s.Since T7.vm T7.heap.size := foldS (T := s₁) (U := T7) hS (by rw [e0]; exact hk) hSn7 hgr7
              have hZ : Z.Warmed39 (s.setVm T7.vm).vm := State.Warmed39.trans hZ0 hS.1
              have hown : (s.setVm T7.vm).vm.findClass "com/example/demarcation/demarcation/SavepointNameMayMatchPinLaw" = some m.cls := by rw [show (s.setVm T7.vm).vm = T7.vm from rfl, hS.1.alike.findClass]; exact hown0
              have X7 : Stand p l e room_1 (s.setVm T7.vm) m #[(.int p1), (.int p2), (.int p3), (.int p4)] below meth c T7 _ _ _ := X7
              rw [e7] at hS
              have hk : h7.size ≤ h7.size := Nat.le_refl _
              unfold Qmk at hQ7
              obtain ⟨bm7, rfl, Nq7, q7, G7, H7⟩ := hQ7
              have N7 := Fr.app N0 Nq7
              have Zs7 : n0 ≤ h7.size := Nat.le_trans Z0 q7.1
              have F_8 : Old Z n0 h7 := F0.keep q7 all0
              have hR := hR.trans hC7
              refine own_g T7 (mkF m 138 #[.val (.int p1), .val (.int p2), .val (.int p3), .val (.int p4), .val (.int zk), .val (.int zo), .val (.int l1), .val (.int l2), .val (.int k0), .val (.int k1), .val (.int o0), .val (.int o1), .unset, .unset, .unset] [(.ref bm7)]) st7 ?_
              refine own_f T7 (mkF m 140 #[.val (.int p1), .val (.int p2), .val (.int p3), .val (.int p4), .val (.int zk), .val (.int zo), .val (.int l1), .val (.int l2), .val (.int k0), .val (.int k1), .val (.int o0), .val (.int o1), .val (.ref bm7), .unset, .unset] []) (fun t k => XS.astore X7.here hx rfl (hb hby at_138) rfl rfl (l' := #[.val (.int p1), .val (.int p2), .val (.int p3), .val (.int p4), .val (.int zk), .val (.int zo), .val (.int l1), .val (.int l2), .val (.int k0), .val (.int k1), .val (.int o0), .val (.int o1), .val (.ref bm7), .unset, .unset]) rfl k) ?_
              refine own_f T7 (mkF m 142 #[.val (.int p1), .val (.int p2), .val (.int p3), .val (.int p4), .val (.int zk), .val (.int zo), .val (.int l1), .val (.int l2), .val (.int k0), .val (.int k1), .val (.int o0), .val (.int o1), .val (.ref bm7), .unset, .unset] [(.int zo)]) (fun t k => XS.iload X7.here hx rfl (hb hby at_140) rfl k) ?_
              by_cases hc9 : zo = 0
              · skip
                refine own_f T7 (mkF m 149 #[.val (.int p1), .val (.int p2), .val (.int p3), .val (.int p4), .val (.int zk), .val (.int zo), .val (.int l1), .val (.int l2), .val (.int k0), .val (.int k1), .val (.int o0), .val (.int o1), .val (.ref bm7), .unset, .unset] []) (fun t k => XS.ifYes X7.here hx rfl (pc0 := 142) (pc' := 149) rfl (hb hby at_142) rfl (XT.i0_eq_t hc9) (by decide) (by decide) k) ?_
                refine own_f T7 (mkF m 151 #[.val (.int p1), .val (.int p2), .val (.int p3), .val (.int p4), .val (.int zk), .val (.int zo), .val (.int l1), .val (.int l2), .val (.int k0), .val (.int k1), .val (.int o0), .val (.int o1), .val (.ref bm7), .unset, .unset] [(.int l2)]) (fun t k => XS.iload X7.here hx rfl (hb hby at_149) rfl k) ?_
                refine own_f T7 (mkF m 153 #[.val (.int p1), .val (.int p2), .val (.int p3), .val (.int p4), .val (.int zk), .val (.int zo), .val (.int l1), .val (.int l2), .val (.int k0), .val (.int k1), .val (.int o0), .val (.int o1), .val (.ref bm7), .unset, .unset] [(.int o0), (.int l2)]) (fun t k => XS.iload X7.here hx rfl (hb hby at_151) rfl k) ?_
                refine own_f T7 (mkF m 155 #[.val (.int p1), .val (.int p2), .val (.int p3), .val (.int p4), .val (.int zk), .val (.int zo), .val (.int l1), .val (.int l2), .val (.int k0), .val (.int k1), .val (.int o0), .val (.int o1), .val (.ref bm7), .unset, .unset] [(.int o1), (.int o0), (.int l2)]) (fun t k => XS.iload X7.here hx rfl (hb hby at_153) rfl k) ?_
                obtain ⟨_, _, ⟨T10, Lq10, kq_10, nq_10⟩, -, X10, hSn10, hgr10, ⟨Lc10, hQ10, lq10, yq10, zq10, hC10⟩, st10⟩ := callSS X7 hx (y := (⟨"com/example/demarcation/demarcation/SavepointNameMayMatchPinLaw", "mk", "(ICC)Ljava/lang/String;"⟩ : MethodName)) hown (mvT hZ (own_w hw 4 rfl)) (mvT hZ (own_w hw 5 rfl)) (mvT hZ (own_w hw 6 rfl)) (mvT hZ (own_w hw 7 rfl)) (by decide) (backOfSH (s := s) (vm0 := T7.vm) (W := 0) (rmmk l Z a0 hw [] l2 o0 o1 wc h7 n0 Zs7 F_8 SC HWC jl2 jo0 jo1) hZ (own_w hw 7 rfl) (own_w hw 6 rfl) (by decide) (by decide) (own_EW hw) hR.1) (g := (mkF m 155 #[.val (.int p1), .val (.int p2), .val (.int p3), .val (.int p4), .val (.int zk), .val (.int zo), .val (.int l1), .val (.int l2), .val (.int k0), .val (.int k1), .val (.int o0), .val (.int o1), .val (.ref bm7), .unset, .unset] [(.int o1), (.int o0), (.int l2)])) rfl (by rw [hml]; rfl) (argsL := [(.int l2), (.int o0), (.int o1)]) (rest := []) (lenOf pd__ICC_Ljava_lang_String_ rfl) rfl (by show 2 * 0 + _ ≤ _; exact Nat.le_of_eq rfl) (hb hby at_155) (fun _ _ => ⟨rfl, e7, (by decide : 0 + 6 + 6 ≤ _), (by decide : 0 + 16 + 16 ≤ _)⟩)
                dsimp only [Pt.U, Pt.locs, Pt.cells, Pt.slots] at X10 lq10 yq10 zq10 st10 hQ10 hSn10 hgr10 hC10
                subst lq10 yq10 zq10
                obtain ⟨h10, e10⟩ : ∃ z, T10.heap = z := ⟨_, rfl⟩
                rw [e10] at hQ10 hC10
                have hS : s.Since T10.vm T10.heap.size := foldS (T := T7) (U := T10) hS (by rw [e7]; exact hk) hSn10 hgr10
                have hZ : Z.Warmed39 (s.setVm T10.vm).vm := State.Warmed39.trans hZ0 hS.1
                have hown : (s.setVm T10.vm).vm.findClass "com/example/demarcation/demarcation/SavepointNameMayMatchPinLaw" = some m.cls := by rw [show (s.setVm T10.vm).vm = T10.vm from rfl, hS.1.alike.findClass]; exact hown0
                have X10 : Stand p l e room_1 (s.setVm T10.vm) m #[(.int p1), (.int p2), (.int p3), (.int p4)] below meth c T10 _ _ _ := X10
                rw [e10] at hS
                have hk : h10.size ≤ h10.size := Nat.le_refl _
                unfold Qmk at hQ10
                obtain ⟨bm10, rfl, Nq10, q10, G10, H10⟩ := hQ10
                have N10 := Fr.app N7 Nq10
                have Zs10 : n0 ≤ h10.size := Nat.le_trans Zs7 q10.1
                have F_11 : Old Z n0 h10 := F_8.keep q10 all0
                have F_12 : own_S Z h10 bm7 l1 k0 k1 := G7.keep q10
                have ne10_bm7 : bm7 ≠ bm10 := Nat.ne_of_lt (Nat.lt_of_lt_of_le G7.lt H10)
                have hR := hR.trans hC10
                refine own_g T10 (mkF m 158 #[.val (.int p1), .val (.int p2), .val (.int p3), .val (.int p4), .val (.int zk), .val (.int zo), .val (.int l1), .val (.int l2), .val (.int k0), .val (.int k1), .val (.int o0), .val (.int o1), .val (.ref bm7), .unset, .unset] [(.ref bm10)]) st10 ?_
                refine own_f T10 (mkF m 160 #[.val (.int p1), .val (.int p2), .val (.int p3), .val (.int p4), .val (.int zk), .val (.int zo), .val (.int l1), .val (.int l2), .val (.int k0), .val (.int k1), .val (.int o0), .val (.int o1), .val (.ref bm7), .val (.ref bm10), .unset] []) (fun t k => XS.astore X10.here hx rfl (hb hby at_158) rfl rfl (l' := #[.val (.int p1), .val (.int p2), .val (.int p3), .val (.int p4), .val (.int zk), .val (.int zo), .val (.int l1), .val (.int l2), .val (.int k0), .val (.int k1), .val (.int o0), .val (.int o1), .val (.ref bm7), .val (.ref bm10), .unset]) rfl k) ?_
                refine own_f T10 (mkF m 162 #[.val (.int p1), .val (.int p2), .val (.int p3), .val (.int p4), .val (.int zk), .val (.int zo), .val (.int l1), .val (.int l2), .val (.int k0), .val (.int k1), .val (.int o0), .val (.int o1), .val (.ref bm7), .val (.ref bm10), .unset] [(.int zk)]) (fun t k => XS.iload X10.here hx rfl (hb hby at_160) rfl k) ?_
                refine own_f T10 (mkF m 165 #[.val (.int p1), .val (.int p2), .val (.int p3), .val (.int p4), .val (.int zk), .val (.int zo), .val (.int l1), .val (.int l2), .val (.int k0), .val (.int k1), .val (.int o0), .val (.int o1), .val (.ref bm7), .val (.ref bm10), .unset] []) (fun t k => XS.ifNo X10.here hx rfl (hb hby at_162) rfl (XT.i0_ne_f hc6) k) ?_
                refine own_f T10 (mkF m 167 #[.val (.int p1), .val (.int p2), .val (.int p3), .val (.int p4), .val (.int zk), .val (.int zo), .val (.int l1), .val (.int l2), .val (.int k0), .val (.int k1), .val (.int o0), .val (.int o1), .val (.ref bm7), .val (.ref bm10), .unset] [(.int zo)]) (fun t k => XS.iload X10.here hx rfl (hb hby at_165) rfl k) ?_
                refine own_f T10 (mkF m 176 #[.val (.int p1), .val (.int p2), .val (.int p3), .val (.int p4), .val (.int zk), .val (.int zo), .val (.int l1), .val (.int l2), .val (.int k0), .val (.int k1), .val (.int o0), .val (.int o1), .val (.ref bm7), .val (.ref bm10), .unset] []) (fun t k => XS.ifYes X10.here hx rfl (pc0 := 167) (pc' := 176) rfl (hb hby at_167) rfl (XT.i0_eq_t hc9) (by decide) (by decide) k) ?_
                refine own_f T10 (mkF m 178 #[.val (.int p1), .val (.int p2), .val (.int p3), .val (.int p4), .val (.int zk), .val (.int zo), .val (.int l1), .val (.int l2), .val (.int k0), .val (.int k1), .val (.int o0), .val (.int o1), .val (.ref bm7), .val (.ref bm10), .unset] [(.int l1)]) (fun t k => XS.iload X10.here hx rfl (hb hby at_176) rfl k) ?_
                refine own_f T10 (mkF m 180 #[.val (.int p1), .val (.int p2), .val (.int p3), .val (.int p4), .val (.int zk), .val (.int zo), .val (.int l1), .val (.int l2), .val (.int k0), .val (.int k1), .val (.int o0), .val (.int o1), .val (.ref bm7), .val (.ref bm10), .unset] [(.int l2), (.int l1)]) (fun t k => XS.iload X10.here hx rfl (hb hby at_178) rfl k) ?_
                have jn13 : ∀ (ze : Int32) (je : ze = (own_eqS l1 l2 k0 k1 o0 o1)), own_R p.tables e below (own_PW s (Q0 Z p1 p2 p3 p4 wc h0 n0) room_1.cells room_1.slots) (T10.setTop (mkF m 214 #[.val (.int p1), .val (.int p2), .val (.int p3), .val (.int p4), .val (.int zk), .val (.int zo), .val (.int l1), .val (.int l2), .val (.int k0), .val (.int k1), .val (.int o0), .val (.int o1), .val (.ref bm7), .val (.ref bm10), .unset] [(.int ze)])) := by
                  intro ze je
                  subst je
                  refine own_f T10 (mkF m 216 #[.val (.int p1), .val (.int p2), .val (.int p3), .val (.int p4), .val (.int zk), .val (.int zo), .val (.int l1), .val (.int l2), .val (.int k0), .val (.int k1), .val (.int o0), .val (.int o1), .val (.ref bm7), .val (.ref bm10), .val (.int (own_eqS l1 l2 k0 k1 o0 o1))] []) (fun t k => XS.istore X10.here hx rfl (hb hby at_214) rfl (l' := #[.val (.int p1), .val (.int p2), .val (.int p3), .val (.int p4), .val (.int zk), .val (.int zo), .val (.int l1), .val (.int l2), .val (.int k0), .val (.int k1), .val (.int o0), .val (.int o1), .val (.ref bm7), .val (.ref bm10), .val (.int (own_eqS l1 l2 k0 k1 o0 o1))]) rfl k) ?_
                  refine own_f T10 (mkF m 218 #[.val (.int p1), .val (.int p2), .val (.int p3), .val (.int p4), .val (.int zk), .val (.int zo), .val (.int l1), .val (.int l2), .val (.int k0), .val (.int k1), .val (.int o0), .val (.int o1), .val (.ref bm7), .val (.ref bm10), .val (.int (own_eqS l1 l2 k0 k1 o0 o1))] [(.ref bm7)]) (fun t k => XS.aload X10.here hx rfl (hb hby at_216) rfl rfl k) ?_
                  refine own_f T10 (mkF m 220 #[.val (.int p1), .val (.int p2), .val (.int p3), .val (.int p4), .val (.int zk), .val (.int zo), .val (.int l1), .val (.int l2), .val (.int k0), .val (.int k1), .val (.int o0), .val (.int o1), .val (.ref bm7), .val (.ref bm10), .val (.int (own_eqS l1 l2 k0 k1 o0 o1))] [(.ref bm10), (.ref bm7)]) (fun t k => XS.aload X10.here hx rfl (hb hby at_218) rfl rfl k) ?_
                  obtain ⟨_, _, ⟨T14, Lq14, kq_14, nq_14⟩, -, X14, ⟨Lc14, hQ14, lq14, yq14, zq14⟩, st14⟩ := Jvm.LawKit.callS X10 hx (y := (⟨"com/example/demarcation/demarcation/SavepointName", "mayMatch", "(Ljava/lang/String;Ljava/lang/String;)Z"⟩ : MethodName)) hown (mvT hZ (own_w hw 0 rfl)) (mvT hZ (own_w hw 1 rfl)) (mvT hZ (own_w hw 2 rfl)) (mvT hZ (own_w hw 3 rfl)) (by decide) (backOf (W := 0) (rmmmss l Z a0 hw [] bm7 bm10 _ _ _ _ _ _ _ h10 n0 Zs10 F_11 F_12 G10 SC HWC ne10_bm7 jl1 jl2 jk0 jk1 jo0 jo1) hZ (own_w hw 3 rfl) (own_w hw 2 rfl) (by decide) (by decide)) (g := (mkF m 220 #[.val (.int p1), .val (.int p2), .val (.int p3), .val (.int p4), .val (.int zk), .val (.int zo), .val (.int l1), .val (.int l2), .val (.int k0), .val (.int k1), .val (.int o0), .val (.int o1), .val (.ref bm7), .val (.ref bm10), .val (.int (own_eqS l1 l2 k0 k1 o0 o1))] [(.ref bm10), (.ref bm7)])) rfl (by rw [hml]; rfl) (argsL := [(.ref bm7), (.ref bm10)]) (rest := []) (lenOf pd__Ljava_lang_String_Ljava_lang_String_Z rfl) rfl (by show 2 * 0 + _ ≤ _; exact Nat.le_of_eq rfl) (hb hby at_220) (fun _ _ => ⟨rfl, e10, (by decide : 0 + 6 + 6 + 0 ≤ _), (by decide : 0 + 16 + 16 + 0 ≤ _)⟩)
                  dsimp only [Pt.U, Pt.locs, Pt.cells, Pt.slots] at X14 lq14 yq14 zq14 st14 hQ14
                  subst lq14 yq14 zq14
                  obtain ⟨h14, e14⟩ : ∃ z, T14.heap = z := ⟨_, rfl⟩
                  rw [e14] at hQ14
                  unfold Qmmss at hQ14
                  obtain ⟨rfl, Nq14, qh14⟩ := hQ14
                  have N14 := Fr.app N10 Nq14
                  rw [qh14] at e14
                  refine own_f T14 (mkF m 223 #[.val (.int p1), .val (.int p2), .val (.int p3), .val (.int p4), .val (.int zk), .val (.int zo), .val (.int l1), .val (.int l2), .val (.int k0), .val (.int k1), .val (.int o0), .val (.int o1), .val (.ref bm7), .val (.ref bm10), .val (.int (own_eqS l1 l2 k0 k1 o0 o1))] [(.int (own_eqS l1 l2 k0 k1 o0 o1))]) st14 ?_
                  refine own_f T14 (mkF m 225 #[.val (.int p1), .val (.int p2), .val (.int p3), .val (.int p4), .val (.int zk), .val (.int zo), .val (.int l1), .val (.int l2), .val (.int k0), .val (.int k1), .val (.int o0), .val (.int o1), .val (.ref bm7), .val (.ref bm10), .val (.int (own_eqS l1 l2 k0 k1 o0 o1))] [(.int (own_eqS l1 l2 k0 k1 o0 o1)), (.int (own_eqS l1 l2 k0 k1 o0 o1))]) (fun t k => XS.iload X14.here hx rfl (hb hby at_223) rfl k) ?_
                  have hc15 : (own_eqS l1 l2 k0 k1 o0 o1) = (own_eqS l1 l2 k0 k1 o0 o1) := rfl
                  refine own_f T14 (mkF m 228 #[.val (.int p1), .val (.int p2), .val (.int p3), .val (.int p4), .val (.int zk), .val (.int zo), .val (.int l1), .val (.int l2), .val (.int k0), .val (.int k1), .val (.int o0), .val (.int o1), .val (.ref bm7), .val (.ref bm10), .val (.int (own_eqS l1 l2 k0 k1 o0 o1))] []) (fun t k => XS.icmpNo X14.here hx rfl (hb hby at_225) rfl (XT.ii_ne_f hc15) k) ?_
                  refine own_f T14 (mkF m 229 #[.val (.int p1), .val (.int p2), .val (.int p3), .val (.int p4), .val (.int zk), .val (.int zo), .val (.int l1), .val (.int l2), .val (.int k0), .val (.int k1), .val (.int o0), .val (.int o1), .val (.ref bm7), .val (.ref bm10), .val (.int (own_eqS l1 l2 k0 k1 o0 o1))] [(.int (1 : Int32))]) (fun t k => XT.iconstV X14.here hx rfl (1 : Int32) (hb hby at_228) (by decide) k) ?_
                  refine own_f T14 (mkF m 233 #[.val (.int p1), .val (.int p2), .val (.int p3), .val (.int p4), .val (.int zk), .val (.int zo), .val (.int l1), .val (.int l2), .val (.int k0), .val (.int k1), .val (.int o0), .val (.int o1), .val (.ref bm7), .val (.ref bm10), .val (.int (own_eqS l1 l2 k0 k1 o0 o1))] [(.int (1 : Int32))]) (fun t k => XS.goto X14.here hx rfl (pc0 := 229) (pc' := 233) rfl (hb hby at_229) (by decide) (by decide) k) ?_
                  obtain ⟨fs, hr, hrun, hended, hW⟩ := Stand.leaveW (s := s) (vm₁ := T10.vm) X14 hS (by rw [e14]; exact hk) (v := some (.int (1 : Int32))) (fun h => by rw [Bd.returns] at h; cases h)
                  refine ⟨_, _, retN X14 hx (t := .boolean) Bd.returns (by simp) (hb hby at_233) hr, hrun, hended, _, _, rfl, ?_, hW.1, hW.2.1, hW.2.2.1, hW.2.2.2.mono (by decide) (by decide)⟩
                  show Q0 Z p1 p2 p3 p4 wc h0 n0 _ T14.heap _
                  rw [e14]
                  exact ⟨rfl, N14⟩
                by_cases hc16 : l1 = l2
                · skip
                  refine own_f T10 (mkF m 183 #[.val (.int p1), .val (.int p2), .val (.int p3), .val (.int p4), .val (.int zk), .val (.int zo), .val (.int l1), .val (.int l2), .val (.int k0), .val (.int k1), .val (.int o0), .val (.int o1), .val (.ref bm7), .val (.ref bm10), .unset] []) (fun t k => XS.icmpNo X10.here hx rfl (hb hby at_180) rfl (XT.ii_ne_f hc16) k) ?_
                  refine own_f T10 (mkF m 185 #[.val (.int p1), .val (.int p2), .val (.int p3), .val (.int p4), .val (.int zk), .val (.int zo), .val (.int l1), .val (.int l2), .val (.int k0), .val (.int k1), .val (.int o0), .val (.int o1), .val (.ref bm7), .val (.ref bm10), .unset] [(.int l1)]) (fun t k => XS.iload X10.here hx rfl (hb hby at_183) rfl k) ?_
                  refine own_f T10 (mkF m 186 #[.val (.int p1), .val (.int p2), .val (.int p3), .val (.int p4), .val (.int zk), .val (.int zo), .val (.int l1), .val (.int l2), .val (.int k0), .val (.int k1), .val (.int o0), .val (.int o1), .val (.ref bm7), .val (.ref bm10), .unset] [(.int (1 : Int32)), (.int l1)]) (fun t k => XT.iconstV X10.here hx rfl (1 : Int32) (hb hby at_185) (by decide) k) ?_
                  by_cases hc17 : l1 < (1 : Int32)
                  · skip
                    refine own_f T10 (mkF m 196 #[.val (.int p1), .val (.int p2), .val (.int p3), .val (.int p4), .val (.int zk), .val (.int zo), .val (.int l1), .val (.int l2), .val (.int k0), .val (.int k1), .val (.int o0), .val (.int o1), .val (.ref bm7), .val (.ref bm10), .unset] []) (fun t k => XS.icmpYes X10.here hx rfl (pc0 := 186) (pc' := 196) rfl (hb hby at_186) rfl (XT.ii_lt_t hc17) (by decide) (by decide) k) ?_
                    refine own_f T10 (mkF m 198 #[.val (.int p1), .val (.int p2), .val (.int p3), .val (.int p4), .val (.int zk), .val (.int zo), .val (.int l1), .val (.int l2), .val (.int k0), .val (.int k1), .val (.int o0), .val (.int o1), .val (.ref bm7), .val (.ref bm10), .unset] [(.int l1)]) (fun t k => XS.iload X10.here hx rfl (hb hby at_196) rfl k) ?_
                    refine own_f T10 (mkF m 199 #[.val (.int p1), .val (.int p2), .val (.int p3), .val (.int p4), .val (.int zk), .val (.int zo), .val (.int l1), .val (.int l2), .val (.int k0), .val (.int k1), .val (.int o0), .val (.int o1), .val (.ref bm7), .val (.ref bm10), .unset] [(.int (2 : Int32)), (.int l1)]) (fun t k => XT.iconstV X10.here hx rfl (2 : Int32) (hb hby at_198) (by decide) k) ?_
                    by_cases hc18 : l1 < (2 : Int32)
                    · skip
                      refine own_f T10 (mkF m 209 #[.val (.int p1), .val (.int p2), .val (.int p3), .val (.int p4), .val (.int zk), .val (.int zo), .val (.int l1), .val (.int l2), .val (.int k0), .val (.int k1), .val (.int o0), .val (.int o1), .val (.ref bm7), .val (.ref bm10), .unset] []) (fun t k => XS.icmpYes X10.here hx rfl (pc0 := 199) (pc' := 209) rfl (hb hby at_199) rfl (XT.ii_lt_t hc18) (by decide) (by decide) k) ?_
                      refine own_f T10 (mkF m 210 #[.val (.int p1), .val (.int p2), .val (.int p3), .val (.int p4), .val (.int zk), .val (.int zo), .val (.int l1), .val (.int l2), .val (.int k0), .val (.int k1), .val (.int o0), .val (.int o1), .val (.ref bm7), .val (.ref bm10), .unset] [(.int (1 : Int32))]) (fun t k => XT.iconstV X10.here hx rfl (1 : Int32) (hb hby at_209) (by decide) k) ?_
                      refine own_f T10 (mkF m 214 #[.val (.int p1), .val (.int p2), .val (.int p3), .val (.int p4), .val (.int zk), .val (.int zo), .val (.int l1), .val (.int l2), .val (.int k0), .val (.int k1), .val (.int o0), .val (.int o1), .val (.ref bm7), .val (.ref bm10), .unset] [(.int (1 : Int32))]) (fun t k => XS.goto X10.here hx rfl (pc0 := 210) (pc' := 214) rfl (hb hby at_210) (by decide) (by decide) k) ?_
                      exact jn13 (1 : Int32) (by rw [own_eqS, if_pos ⟨hc16, Or.inl hc17, Or.inl hc18⟩] <;> rfl)
                    · skip
                      refine own_f T10 (mkF m 202 #[.val (.int p1), .val (.int p2), .val (.int p3), .val (.int p4), .val (.int zk), .val (.int zo), .val (.int l1), .val (.int l2), .val (.int k0), .val (.int k1), .val (.int o0), .val (.int o1), .val (.ref bm7), .val (.ref bm10), .unset] []) (fun t k => XS.icmpNo X10.here hx rfl (hb hby at_199) rfl (XT.ii_lt_f hc18) k) ?_
                      refine own_f T10 (mkF m 204 #[.val (.int p1), .val (.int p2), .val (.int p3), .val (.int p4), .val (.int zk), .val (.int zo), .val (.int l1), .val (.int l2), .val (.int k0), .val (.int k1), .val (.int o0), .val (.int o1), .val (.ref bm7), .val (.ref bm10), .unset] [(.int k1)]) (fun t k => XS.iload X10.here hx rfl (hb hby at_202) rfl k) ?_
                      refine own_f T10 (mkF m 206 #[.val (.int p1), .val (.int p2), .val (.int p3), .val (.int p4), .val (.int zk), .val (.int zo), .val (.int l1), .val (.int l2), .val (.int k0), .val (.int k1), .val (.int o0), .val (.int o1), .val (.ref bm7), .val (.ref bm10), .unset] [(.int o1), (.int k1)]) (fun t k => XS.iload X10.here hx rfl (hb hby at_204) rfl k) ?_
                      by_cases hc19 : k1 = o1
                      · skip
                        refine own_f T10 (mkF m 209 #[.val (.int p1), .val (.int p2), .val (.int p3), .val (.int p4), .val (.int zk), .val (.int zo), .val (.int l1), .val (.int l2), .val (.int k0), .val (.int k1), .val (.int o0), .val (.int o1), .val (.ref bm7), .val (.ref bm10), .unset] []) (fun t k => XS.icmpNo X10.here hx rfl (hb hby at_206) rfl (XT.ii_ne_f hc19) k) ?_
                        refine own_f T10 (mkF m 210 #[.val (.int p1), .val (.int p2), .val (.int p3), .val (.int p4), .val (.int zk), .val (.int zo), .val (.int l1), .val (.int l2), .val (.int k0), .val (.int k1), .val (.int o0), .val (.int o1), .val (.ref bm7), .val (.ref bm10), .unset] [(.int (1 : Int32))]) (fun t k => XT.iconstV X10.here hx rfl (1 : Int32) (hb hby at_209) (by decide) k) ?_
                        refine own_f T10 (mkF m 214 #[.val (.int p1), .val (.int p2), .val (.int p3), .val (.int p4), .val (.int zk), .val (.int zo), .val (.int l1), .val (.int l2), .val (.int k0), .val (.int k1), .val (.int o0), .val (.int o1), .val (.ref bm7), .val (.ref bm10), .unset] [(.int (1 : Int32))]) (fun t k => XS.goto X10.here hx rfl (pc0 := 210) (pc' := 214) rfl (hb hby at_210) (by decide) (by decide) k) ?_
                        exact jn13 (1 : Int32) (by rw [own_eqS, if_pos ⟨hc16, Or.inl hc17, Or.inr hc19⟩] <;> rfl)
                      · skip
                        refine own_f T10 (mkF m 213 #[.val (.int p1), .val (.int p2), .val (.int p3), .val (.int p4), .val (.int zk), .val (.int zo), .val (.int l1), .val (.int l2), .val (.int k0), .val (.int k1), .val (.int o0), .val (.int o1), .val (.ref bm7), .val (.ref bm10), .unset] []) (fun t k => XS.icmpYes X10.here hx rfl (pc0 := 206) (pc' := 213) rfl (hb hby at_206) rfl (XT.ii_ne_t hc19) (by decide) (by decide) k) ?_
                        refine own_f T10 (mkF m 214 #[.val (.int p1), .val (.int p2), .val (.int p3), .val (.int p4), .val (.int zk), .val (.int zo), .val (.int l1), .val (.int l2), .val (.int k0), .val (.int k1), .val (.int o0), .val (.int o1), .val (.ref bm7), .val (.ref bm10), .unset] [(.int (0 : Int32))]) (fun t k => XT.iconstV X10.here hx rfl (0 : Int32) (hb hby at_213) (by decide) k) ?_
                        exact jn13 (0 : Int32) (by rw [own_eqS, if_neg (fun z => z.2.2.elim hc18 hc19)] <;> rfl)
                  · skip
                    refine own_f T10 (mkF m 189 #[.val (.int p1), .val (.int p2), .val (.int p3), .val (.int p4), .val (.int zk), .val (.int zo), .val (.int l1), .val (.int l2), .val (.int k0), .val (.int k1), .val (.int o0), .val (.int o1), .val (.ref bm7), .val (.ref bm10), .unset] []) (fun t k => XS.icmpNo X10.here hx rfl (hb hby at_186) rfl (XT.ii_lt_f hc17) k) ?_
                    refine own_f T10 (mkF m 191 #[.val (.int p1), .val (.int p2), .val (.int p3), .val (.int p4), .val (.int zk), .val (.int zo), .val (.int l1), .val (.int l2), .val (.int k0), .val (.int k1), .val (.int o0), .val (.int o1), .val (.ref bm7), .val (.ref bm10), .unset] [(.int k0)]) (fun t k => XS.iload X10.here hx rfl (hb hby at_189) rfl k) ?_
                    refine own_f T10 (mkF m 193 #[.val (.int p1), .val (.int p2), .val (.int p3), .val (.int p4), .val (.int zk), .val (.int zo), .val (.int l1), .val (.int l2), .val (.int k0), .val (.int k1), .val (.int o0), .val (.int o1), .val (.ref bm7), .val (.ref bm10), .unset] [(.int o0), (.int k0)]) (fun t k => XS.iload X10.here hx rfl (hb hby at_191) rfl k) ?_
                    by_cases hc20 : k0 = o0
                    · skip
                      refine own_f T10 (mkF m 196 #[.val (.int p1), .val (.int p2), .val (.int p3), .val (.int p4), .val (.int zk), .val (.int zo), .val (.int l1), .val (.int l2), .val (.int k0), .val (.int k1), .val (.int o0), .val (.int o1), .val (.ref bm7), .val (.ref bm10), .unset] []) (fun t k => XS.icmpNo X10.here hx rfl (hb hby at_193) rfl (XT.ii_ne_f hc20) k) ?_
                      refine own_f T10 (mkF m 198 #[.val (.int p1), .val (.int p2), .val (.int p3), .val (.int p4), .val (.int zk), .val (.int zo), .val (.int l1), .val (.int l2), .val (.int k0), .val (.int k1), .val (.int o0), .val (.int o1), .val (.ref bm7), .val (.ref bm10), .unset] [(.int l1)]) (fun t k => XS.iload X10.here hx rfl (hb hby at_196) rfl k) ?_
                      refine own_f T10 (mkF m 199 #[.val (.int p1), .val (.int p2), .val (.int p3), .val (.int p4), .val (.int zk), .val (.int zo), .val (.int l1), .val (.int l2), .val (.int k0), .val (.int k1), .val (.int o0), .val (.int o1), .val (.ref bm7), .val (.ref bm10), .unset] [(.int (2 : Int32)), (.int l1)]) (fun t k => XT.iconstV X10.here hx rfl (2 : Int32) (hb hby at_198) (by decide) k) ?_
                      by_cases hc21 : l1 < (2 : Int32)
                      · skip
                        refine own_f T10 (mkF m 209 #[.val (.int p1), .val (.int p2), .val (.int p3), .val (.int p4), .val (.int zk), .val (.int zo), .val (.int l1), .val (.int l2), .val (.int k0), .val (.int k1), .val (.int o0), .val (.int o1), .val (.ref bm7), .val (.ref bm10), .unset] []) (fun t k => XS.icmpYes X10.here hx rfl (pc0 := 199) (pc' := 209) rfl (hb hby at_199) rfl (XT.ii_lt_t hc21) (by decide) (by decide) k) ?_
                        refine own_f T10 (mkF m 210 #[.val (.int p1), .val (.int p2), .val (.int p3), .val (.int p4), .val (.int zk), .val (.int zo), .val (.int l1), .val (.int l2), .val (.int k0), .val (.int k1), .val (.int o0), .val (.int o1), .val (.ref bm7), .val (.ref bm10), .unset] [(.int (1 : Int32))]) (fun t k => XT.iconstV X10.here hx rfl (1 : Int32) (hb hby at_209) (by decide) k) ?_
                        refine own_f T10 (mkF m 214 #[.val (.int p1), .val (.int p2), .val (.int p3), .val (.int p4), .val (.int zk), .val (.int zo), .val (.int l1), .val (.int l2), .val (.int k0), .val (.int k1), .val (.int o0), .val (.int o1), .val (.ref bm7), .val (.ref bm10), .unset] [(.int (1 : Int32))]) (fun t k => XS.goto X10.here hx rfl (pc0 := 210) (pc' := 214) rfl (hb hby at_210) (by decide) (by decide) k) ?_
                        exact jn13 (1 : Int32) (by rw [own_eqS, if_pos ⟨hc16, Or.inr hc20, Or.inl hc21⟩] <;> rfl)
                      · skip
                        refine own_f T10 (mkF m 202 #[.val (.int p1), .val (.int p2), .val (.int p3), .val (.int p4), .val (.int zk), .val (.int zo), .val (.int l1), .val (.int l2), .val (.int k0), .val (.int k1), .val (.int o0), .val (.int o1), .val (.ref bm7), .val (.ref bm10), .unset] []) (fun t k => XS.icmpNo X10.here hx rfl (hb hby at_199) rfl (XT.ii_lt_f hc21) k) ?_
                        refine own_f T10 (mkF m 204 #[.val (.int p1), .val (.int p2), .val (.int p3), .val (.int p4), .val (.int zk), .val (.int zo), .val (.int l1), .val (.int l2), .val (.int k0), .val (.int k1), .val (.int o0), .val (.int o1), .val (.ref bm7), .val (.ref bm10), .unset] [(.int k1)]) (fun t k => XS.iload X10.here hx rfl (hb hby at_202) rfl k) ?_
                        refine own_f T10 (mkF m 206 #[.val (.int p1), .val (.int p2), .val (.int p3), .val (.int p4), .val (.int zk), .val (.int zo), .val (.int l1), .val (.int l2), .val (.int k0), .val (.int k1), .val (.int o0), .val (.int o1), .val (.ref bm7), .val (.ref bm10), .unset] [(.int o1), (.int k1)]) (fun t k => XS.iload X10.here hx rfl (hb hby at_204) rfl k) ?_
                        by_cases hc22 : k1 = o1
                        · skip
                          refine own_f T10 (mkF m 209 #[.val (.int p1), .val (.int p2), .val (.int p3), .val (.int p4), .val (.int zk), .val (.int zo), .val (.int l1), .val (.int l2), .val (.int k0), .val (.int k1), .val (.int o0), .val (.int o1), .val (.ref bm7), .val (.ref bm10), .unset] []) (fun t k => XS.icmpNo X10.here hx rfl (hb hby at_206) rfl (XT.ii_ne_f hc22) k) ?_
                          refine own_f T10 (mkF m 210 #[.val (.int p1), .val (.int p2), .val (.int p3), .val (.int p4), .val (.int zk), .val (.int zo), .val (.int l1), .val (.int l2), .val (.int k0), .val (.int k1), .val (.int o0), .val (.int o1), .val (.ref bm7), .val (.ref bm10), .unset] [(.int (1 : Int32))]) (fun t k => XT.iconstV X10.here hx rfl (1 : Int32) (hb hby at_209) (by decide) k) ?_
                          refine own_f T10 (mkF m 214 #[.val (.int p1), .val (.int p2), .val (.int p3), .val (.int p4), .val (.int zk), .val (.int zo), .val (.int l1), .val (.int l2), .val (.int k0), .val (.int k1), .val (.int o0), .val (.int o1), .val (.ref bm7), .val (.ref bm10), .unset] [(.int (1 : Int32))]) (fun t k => XS.goto X10.here hx rfl (pc0 := 210) (pc' := 214) rfl (hb hby at_210) (by decide) (by decide) k) ?_
                          exact jn13 (1 : Int32) (by rw [own_eqS, if_pos ⟨hc16, Or.inr hc20, Or.inr hc22⟩] <;> rfl)
                        · skip
                          refine own_f T10 (mkF m 213 #[.val (.int p1), .val (.int p2), .val (.int p3), .val (.int p4), .val (.int zk), .val (.int zo), .val (.int l1), .val (.int l2), .val (.int k0), .val (.int k1), .val (.int o0), .val (.int o1), .val (.ref bm7), .val (.ref bm10), .unset] []) (fun t k => XS.icmpYes X10.here hx rfl (pc0 := 206) (pc' := 213) rfl (hb hby at_206) rfl (XT.ii_ne_t hc22) (by decide) (by decide) k) ?_
                          refine own_f T10 (mkF m 214 #[.val (.int p1), .val (.int p2), .val (.int p3), .val (.int p4), .val (.int zk), .val (.int zo), .val (.int l1), .val (.int l2), .val (.int k0), .val (.int k1), .val (.int o0), .val (.int o1), .val (.ref bm7), .val (.ref bm10), .unset] [(.int (0 : Int32))]) (fun t k => XT.iconstV X10.here hx rfl (0 : Int32) (hb hby at_213) (by decide) k) ?_
                          exact jn13 (0 : Int32) (by rw [own_eqS, if_neg (fun z => z.2.2.elim hc21 hc22)] <;> rfl)
                    · skip
                      refine own_f T10 (mkF m 213 #[.val (.int p1), .val (.int p2), .val (.int p3), .val (.int p4), .val (.int zk), .val (.int zo), .val (.int l1), .val (.int l2), .val (.int k0), .val (.int k1), .val (.int o0), .val (.int o1), .val (.ref bm7), .val (.ref bm10), .unset] []) (fun t k => XS.icmpYes X10.here hx rfl (pc0 := 193) (pc' := 213) rfl (hb hby at_193) rfl (XT.ii_ne_t hc20) (by decide) (by decide) k) ?_
                      refine own_f T10 (mkF m 214 #[.val (.int p1), .val (.int p2), .val (.int p3), .val (.int p4), .val (.int zk), .val (.int zo), .val (.int l1), .val (.int l2), .val (.int k0), .val (.int k1), .val (.int o0), .val (.int o1), .val (.ref bm7), .val (.ref bm10), .unset] [(.int (0 : Int32))]) (fun t k => XT.iconstV X10.here hx rfl (0 : Int32) (hb hby at_213) (by decide) k) ?_
                      exact jn13 (0 : Int32) (by rw [own_eqS, if_neg (fun z => z.2.1.elim hc17 hc20)] <;> rfl)
                · skip
                  refine own_f T10 (mkF m 213 #[.val (.int p1), .val (.int p2), .val (.int p3), .val (.int p4), .val (.int zk), .val (.int zo), .val (.int l1), .val (.int l2), .val (.int k0), .val (.int k1), .val (.int o0), .val (.int o1), .val (.ref bm7), .val (.ref bm10), .unset] []) (fun t k => XS.icmpYes X10.here hx rfl (pc0 := 180) (pc' := 213) rfl (hb hby at_180) rfl (XT.ii_ne_t hc16) (by decide) (by decide) k) ?_
                  refine own_f T10 (mkF m 214 #[.val (.int p1), .val (.int p2), .val (.int p3), .val (.int p4), .val (.int zk), .val (.int zo), .val (.int l1), .val (.int l2), .val (.int k0), .val (.int k1), .val (.int o0), .val (.int o1), .val (.ref bm7), .val (.ref bm10), .unset] [(.int (0 : Int32))]) (fun t k => XT.iconstV X10.here hx rfl (0 : Int32) (hb hby at_213) (by decide) k) ?_
                  exact jn13 (0 : Int32) (by rw [own_eqS, if_neg (fun z => hc16 z.1)] <;> rfl)
              · skip
                refine own_f T7 (mkF m 145 #[.val (.int p1), .val (.int p2), .val (.int p3), .val (.int p4), .val (.int zk), .val (.int zo), .val (.int l1), .val (.int l2), .val (.int k0), .val (.int k1), .val (.int o0), .val (.int o1), .val (.ref bm7), .unset, .unset] []) (fun t k => XS.ifNo X7.here hx rfl (hb hby at_142) rfl (XT.i0_eq_f hc9) k) ?_
                refine own_f T7 (mkF m 146 #[.val (.int p1), .val (.int p2), .val (.int p3), .val (.int p4), .val (.int zk), .val (.int zo), .val (.int l1), .val (.int l2), .val (.int k0), .val (.int k1), .val (.int o0), .val (.int o1), .val (.ref bm7), .unset, .unset] [.null]) (fun t k => XS.aconstNull X7.here hx rfl (hb hby at_145) k) ?_
                refine own_f T7 (mkF m 158 #[.val (.int p1), .val (.int p2), .val (.int p3), .val (.int p4), .val (.int zk), .val (.int zo), .val (.int l1), .val (.int l2), .val (.int k0), .val (.int k1), .val (.int o0), .val (.int o1), .val (.ref bm7), .unset, .unset] [.null]) (fun t k => XS.goto X7.here hx rfl (pc0 := 146) (pc' := 158) rfl (hb hby at_146) (by decide) (by decide) k) ?_
                refine own_f T7 (mkF m 160 #[.val (.int p1), .val (.int p2), .val (.int p3), .val (.int p4), .val (.int zk), .val (.int zo), .val (.int l1), .val (.int l2), .val (.int k0), .val (.int k1), .val (.int o0), .val (.int o1), .val (.ref bm7), .val .null, .unset] []) (fun t k => XS.astore X7.here hx rfl (hb hby at_158) rfl rfl (l' := #[.val (.int p1), .val (.int p2), .val (.int p3), .val (.int p4), .val (.int zk), .val (.int zo), .val (.int l1), .val (.int l2), .val (.int k0), .val (.int k1), .val (.int o0), .val (.int o1), .val (.ref bm7), .val .null, .unset]) rfl k) ?_
                refine own_f T7 (mkF m 162 #[.val (.int p1), .val (.int p2), .val (.int p3), .val (.int p4), .val (.int zk), .val (.int zo), .val (.int l1), .val (.int l2), .val (.int k0), .val (.int k1), .val (.int o0), .val (.int o1), .val (.ref bm7), .val .null, .unset] [(.int zk)]) (fun t k => XS.iload X7.here hx rfl (hb hby at_160) rfl k) ?_
                refine own_f T7 (mkF m 165 #[.val (.int p1), .val (.int p2), .val (.int p3), .val (.int p4), .val (.int zk), .val (.int zo), .val (.int l1), .val (.int l2), .val (.int k0), .val (.int k1), .val (.int o0), .val (.int o1), .val (.ref bm7), .val .null, .unset] []) (fun t k => XS.ifNo X7.here hx rfl (hb hby at_162) rfl (XT.i0_ne_f hc6) k) ?_
                refine own_f T7 (mkF m 167 #[.val (.int p1), .val (.int p2), .val (.int p3), .val (.int p4), .val (.int zk), .val (.int zo), .val (.int l1), .val (.int l2), .val (.int k0), .val (.int k1), .val (.int o0), .val (.int o1), .val (.ref bm7), .val .null, .unset] [(.int zo)]) (fun t k => XS.iload X7.here hx rfl (hb hby at_165) rfl k) ?_
                refine own_f T7 (mkF m 170 #[.val (.int p1), .val (.int p2), .val (.int p3), .val (.int p4), .val (.int zk), .val (.int zo), .val (.int l1), .val (.int l2), .val (.int k0), .val (.int k1), .val (.int o0), .val (.int o1), .val (.ref bm7), .val .null, .unset] []) (fun t k => XS.ifNo X7.here hx rfl (hb hby at_167) rfl (XT.i0_eq_f hc9) k) ?_
                refine own_f T7 (mkF m 171 #[.val (.int p1), .val (.int p2), .val (.int p3), .val (.int p4), .val (.int zk), .val (.int zo), .val (.int l1), .val (.int l2), .val (.int k0), .val (.int k1), .val (.int o0), .val (.int o1), .val (.ref bm7), .val .null, .unset] [(.int (1 : Int32))]) (fun t k => XT.iconstV X7.here hx rfl (1 : Int32) (hb hby at_170) (by decide) k) ?_
                refine own_f T7 (mkF m 173 #[.val (.int p1), .val (.int p2), .val (.int p3), .val (.int p4), .val (.int zk), .val (.int zo), .val (.int l1), .val (.int l2), .val (.int k0), .val (.int k1), .val (.int o0), .val (.int o1), .val (.ref bm7), .val .null, .val (.int (1 : Int32))] []) (fun t k => XS.istore X7.here hx rfl (hb hby at_171) rfl (l' := #[.val (.int p1), .val (.int p2), .val (.int p3), .val (.int p4), .val (.int zk), .val (.int zo), .val (.int l1), .val (.int l2), .val (.int k0), .val (.int k1), .val (.int o0), .val (.int o1), .val (.ref bm7), .val .null, .val (.int (1 : Int32))]) rfl k) ?_
                refine own_f T7 (mkF m 216 #[.val (.int p1), .val (.int p2), .val (.int p3), .val (.int p4), .val (.int zk), .val (.int zo), .val (.int l1), .val (.int l2), .val (.int k0), .val (.int k1), .val (.int o0), .val (.int o1), .val (.ref bm7), .val .null, .val (.int (1 : Int32))] []) (fun t k => XS.goto X7.here hx rfl (pc0 := 173) (pc' := 216) rfl (hb hby at_173) (by decide) (by decide) k) ?_
                refine own_f T7 (mkF m 218 #[.val (.int p1), .val (.int p2), .val (.int p3), .val (.int p4), .val (.int zk), .val (.int zo), .val (.int l1), .val (.int l2), .val (.int k0), .val (.int k1), .val (.int o0), .val (.int o1), .val (.ref bm7), .val .null, .val (.int (1 : Int32))] [(.ref bm7)]) (fun t k => XS.aload X7.here hx rfl (hb hby at_216) rfl rfl k) ?_
                refine own_f T7 (mkF m 220 #[.val (.int p1), .val (.int p2), .val (.int p3), .val (.int p4), .val (.int zk), .val (.int zo), .val (.int l1), .val (.int l2), .val (.int k0), .val (.int k1), .val (.int o0), .val (.int o1), .val (.ref bm7), .val .null, .val (.int (1 : Int32))] [.null, (.ref bm7)]) (fun t k => XS.aload X7.here hx rfl (hb hby at_218) rfl rfl k) ?_
                obtain ⟨_, _, ⟨T23, Lq23, kq_23, nq_23⟩, -, X23, ⟨Lc23, hQ23, lq23, yq23, zq23⟩, st23⟩ := Jvm.LawKit.callS X7 hx (y := (⟨"com/example/demarcation/demarcation/SavepointName", "mayMatch", "(Ljava/lang/String;Ljava/lang/String;)Z"⟩ : MethodName)) hown (mvT hZ (own_w hw 0 rfl)) (mvT hZ (own_w hw 1 rfl)) (mvT hZ (own_w hw 2 rfl)) (mvT hZ (own_w hw 3 rfl)) (by decide) (backOf (W := 0) (rmmmrn l Z a0 hw [] bm7 h7 n0 Zs7 ) hZ (own_w hw 3 rfl) (own_w hw 2 rfl) (by decide) (by decide)) (g := (mkF m 220 #[.val (.int p1), .val (.int p2), .val (.int p3), .val (.int p4), .val (.int zk), .val (.int zo), .val (.int l1), .val (.int l2), .val (.int k0), .val (.int k1), .val (.int o0), .val (.int o1), .val (.ref bm7), .val .null, .val (.int (1 : Int32))] [.null, (.ref bm7)])) rfl (by rw [hml]; rfl) (argsL := [(.ref bm7), .null]) (rest := []) (lenOf pd__Ljava_lang_String_Ljava_lang_String_Z rfl) rfl (by show 2 * 0 + _ ≤ _; exact Nat.le_of_eq rfl) (hb hby at_220) (fun _ _ => ⟨rfl, e7, (by decide : 0 + 6 + 0 ≤ _), (by decide : 0 + 16 + 0 ≤ _)⟩)
                dsimp only [Pt.U, Pt.locs, Pt.cells, Pt.slots] at X23 lq23 yq23 zq23 st23 hQ23
                subst lq23 yq23 zq23
                obtain ⟨h23, e23⟩ : ∃ z, T23.heap = z := ⟨_, rfl⟩
                rw [e23] at hQ23
                unfold Qmmrn at hQ23
                obtain ⟨rfl, Nq23, qh23⟩ := hQ23
                have N23 := Fr.app N7 Nq23
                rw [qh23] at e23
                refine own_f T23 (mkF m 223 #[.val (.int p1), .val (.int p2), .val (.int p3), .val (.int p4), .val (.int zk), .val (.int zo), .val (.int l1), .val (.int l2), .val (.int k0), .val (.int k1), .val (.int o0), .val (.int o1), .val (.ref bm7), .val .null, .val (.int (1 : Int32))] [(.int (1 : Int32))]) st23 ?_
                refine own_f T23 (mkF m 225 #[.val (.int p1), .val (.int p2), .val (.int p3), .val (.int p4), .val (.int zk), .val (.int zo), .val (.int l1), .val (.int l2), .val (.int k0), .val (.int k1), .val (.int o0), .val (.int o1), .val (.ref bm7), .val .null, .val (.int (1 : Int32))] [(.int (1 : Int32)), (.int (1 : Int32))]) (fun t k => XS.iload X23.here hx rfl (hb hby at_223) rfl k) ?_
                refine own_f T23 (mkF m 228 #[.val (.int p1), .val (.int p2), .val (.int p3), .val (.int p4), .val (.int zk), .val (.int zo), .val (.int l1), .val (.int l2), .val (.int k0), .val (.int k1), .val (.int o0), .val (.int o1), .val (.ref bm7), .val .null, .val (.int (1 : Int32))] []) (fun t k => XS.icmpNo X23.here hx rfl (hb hby at_225) rfl (XT.ii_ne_f (by decide)) k) ?_
                refine own_f T23 (mkF m 229 #[.val (.int p1), .val (.int p2), .val (.int p3), .val (.int p4), .val (.int zk), .val (.int zo), .val (.int l1), .val (.int l2), .val (.int k0), .val (.int k1), .val (.int o0), .val (.int o1), .val (.ref bm7), .val .null, .val (.int (1 : Int32))] [(.int (1 : Int32))]) (fun t k => XT.iconstV X23.here hx rfl (1 : Int32) (hb hby at_228) (by decide) k) ?_
                refine own_f T23 (mkF m 233 #[.val (.int p1), .val (.int p2), .val (.int p3), .val (.int p4), .val (.int zk), .val (.int zo), .val (.int l1), .val (.int l2), .val (.int k0), .val (.int k1), .val (.int o0), .val (.int o1), .val (.ref bm7), .val .null, .val (.int (1 : Int32))] [(.int (1 : Int32))]) (fun t k => XS.goto X23.here hx rfl (pc0 := 229) (pc' := 233) rfl (hb hby at_229) (by decide) (by decide) k) ?_
                obtain ⟨fs, hr, hrun, hended, hW⟩ := Stand.leaveW (s := s) (vm₁ := T7.vm) X23 hS (by rw [e23]; exact hk) (v := some (.int (1 : Int32))) (fun h => by rw [Bd.returns] at h; cases h)
                refine ⟨_, _, retN X23 hx (t := .boolean) Bd.returns (by simp) (hb hby at_233) hr, hrun, hended, _, _, rfl, ?_, hW.1, hW.2.1, hW.2.2.1, hW.2.2.2.mono (by decide) (by decide)⟩
                show Q0 Z p1 p2 p3 p4 wc h0 n0 _ T23.heap _
                rw [e23]
                exact ⟨rfl, N23⟩
            · skip
              refine own_f s₁ (mkF m 125 #[.val (.int p1), .val (.int p2), .val (.int p3), .val (.int p4), .val (.int zk), .val (.int zo), .val (.int l1), .val (.int l2), .val (.int k0), .val (.int k1), .val (.int o0), .val (.int o1), .unset, .unset, .unset] []) (fun t k => XS.ifNo X0.here hx rfl (hb hby at_122) rfl (XT.i0_eq_f hc6) k) ?_
              refine own_f s₁ (mkF m 126 #[.val (.int p1), .val (.int p2), .val (.int p3), .val (.int p4), .val (.int zk), .val (.int zo), .val (.int l1), .val (.int l2), .val (.int k0), .val (.int k1), .val (.int o0), .val (.int o1), .unset, .unset, .unset] [.null]) (fun t k => XS.aconstNull X0.here hx rfl (hb hby at_125) k) ?_
              refine own_f s₁ (mkF m 138 #[.val (.int p1), .val (.int p2), .val (.int p3), .val (.int p4), .val (.int zk), .val (.int zo), .val (.int l1), .val (.int l2), .val (.int k0), .val (.int k1), .val (.int o0), .val (.int o1), .unset, .unset, .unset] [.null]) (fun t k => XS.goto X0.here hx rfl (pc0 := 126) (pc' := 138) rfl (hb hby at_126) (by decide) (by decide) k) ?_
              refine own_f s₁ (mkF m 140 #[.val (.int p1), .val (.int p2), .val (.int p3), .val (.int p4), .val (.int zk), .val (.int zo), .val (.int l1), .val (.int l2), .val (.int k0), .val (.int k1), .val (.int o0), .val (.int o1), .val .null, .unset, .unset] []) (fun t k => XS.astore X0.here hx rfl (hb hby at_138) rfl rfl (l' := #[.val (.int p1), .val (.int p2), .val (.int p3), .val (.int p4), .val (.int zk), .val (.int zo), .val (.int l1), .val (.int l2), .val (.int k0), .val (.int k1), .val (.int o0), .val (.int o1), .val .null, .unset, .unset]) rfl k) ?_
              refine own_f s₁ (mkF m 142 #[.val (.int p1), .val (.int p2), .val (.int p3), .val (.int p4), .val (.int zk), .val (.int zo), .val (.int l1), .val (.int l2), .val (.int k0), .val (.int k1), .val (.int o0), .val (.int o1), .val .null, .unset, .unset] [(.int zo)]) (fun t k => XS.iload X0.here hx rfl (hb hby at_140) rfl k) ?_
              by_cases hc24 : zo = 0
              · skip
                refine own_f s₁ (mkF m 149 #[.val (.int p1), .val (.int p2), .val (.int p3), .val (.int p4), .val (.int zk), .val (.int zo), .val (.int l1), .val (.int l2), .val (.int k0), .val (.int k1), .val (.int o0), .val (.int o1), .val .null, .unset, .unset] []) (fun t k => XS.ifYes X0.here hx rfl (pc0 := 142) (pc' := 149) rfl (hb hby at_142) rfl (XT.i0_eq_t hc24) (by decide) (by decide) k) ?_
                refine own_f s₁ (mkF m 151 #[.val (.int p1), .val (.int p2), .val (.int p3), .val (.int p4), .val (.int zk), .val (.int zo), .val (.int l1), .val (.int l2), .val (.int k0), .val (.int k1), .val (.int o0), .val (.int o1), .val .null, .unset, .unset] [(.int l2)]) (fun t k => XS.iload X0.here hx rfl (hb hby at_149) rfl k) ?_
                refine own_f s₁ (mkF m 153 #[.val (.int p1), .val (.int p2), .val (.int p3), .val (.int p4), .val (.int zk), .val (.int zo), .val (.int l1), .val (.int l2), .val (.int k0), .val (.int k1), .val (.int o0), .val (.int o1), .val .null, .unset, .unset] [(.int o0), (.int l2)]) (fun t k => XS.iload X0.here hx rfl (hb hby at_151) rfl k) ?_
                refine own_f s₁ (mkF m 155 #[.val (.int p1), .val (.int p2), .val (.int p3), .val (.int p4), .val (.int zk), .val (.int zo), .val (.int l1), .val (.int l2), .val (.int k0), .val (.int k1), .val (.int o0), .val (.int o1), .val .null, .unset, .unset] [(.int o1), (.int o0), (.int l2)]) (fun t k => XS.iload X0.here hx rfl (hb hby at_153) rfl k) ?_
                obtain ⟨_, _, ⟨T25, Lq25, kq_25, nq_25⟩, -, X25, hSn25, hgr25, ⟨Lc25, hQ25, lq25, yq25, zq25, hC25⟩, st25⟩ := callSS X0 hx (y := (⟨"com/example/demarcation/demarcation/SavepointNameMayMatchPinLaw", "mk", "(ICC)Ljava/lang/String;"⟩ : MethodName)) hown (mvT hZ (own_w hw 4 rfl)) (mvT hZ (own_w hw 5 rfl)) (mvT hZ (own_w hw 6 rfl)) (mvT hZ (own_w hw 7 rfl)) (by decide) (backOfSH (s := s) (vm0 := s.vm) (W := 0) (rmmk l Z a0 hw [] l2 o0 o1 wc h0 n0 Z0 F0 SC HWC jl2 jo0 jo1) hZ (own_w hw 7 rfl) (own_w hw 6 rfl) (by decide) (by decide) (own_EW hw) hR.1) (g := (mkF m 155 #[.val (.int p1), .val (.int p2), .val (.int p3), .val (.int p4), .val (.int zk), .val (.int zo), .val (.int l1), .val (.int l2), .val (.int k0), .val (.int k1), .val (.int o0), .val (.int o1), .val .null, .unset, .unset] [(.int o1), (.int o0), (.int l2)])) rfl (by rw [hml]; rfl) (argsL := [(.int l2), (.int o0), (.int o1)]) (rest := []) (lenOf pd__ICC_Ljava_lang_String_ rfl) rfl (by show 2 * 0 + _ ≤ _; exact Nat.le_of_eq rfl) (hb hby at_155) (fun _ _ => ⟨rfl, e0, (by decide : 0 + 6 ≤ _), (by decide : 0 + 16 ≤ _)⟩)
                dsimp only [Pt.U, Pt.locs, Pt.cells, Pt.slots] at X25 lq25 yq25 zq25 st25 hQ25 hSn25 hgr25 hC25
                subst lq25 yq25 zq25
                obtain ⟨h25, e25⟩ : ∃ z, T25.heap = z := ⟨_, rfl⟩
                rw [e25] at hQ25 hC25
                have hS : s.Since T25.vm T25.heap.size := foldS (T := s₁) (U := T25) hS (by rw [e0]; exact hk) hSn25 hgr25
                have hZ : Z.Warmed39 (s.setVm T25.vm).vm := State.Warmed39.trans hZ0 hS.1
                have hown : (s.setVm T25.vm).vm.findClass "com/example/demarcation/demarcation/SavepointNameMayMatchPinLaw" = some m.cls := by rw [show (s.setVm T25.vm).vm = T25.vm from rfl, hS.1.alike.findClass]; exact hown0
                have X25 : Stand p l e room_1 (s.setVm T25.vm) m #[(.int p1), (.int p2), (.int p3), (.int p4)] below meth c T25 _ _ _ := X25
                rw [e25] at hS
                have hk : h25.size ≤ h25.size := Nat.le_refl _
                unfold Qmk at hQ25
                obtain ⟨bm25, rfl, Nq25, q25, G25, H25⟩ := hQ25
                have N25 := Fr.app N0 Nq25
                have Zs25 : n0 ≤ h25.size := Nat.le_trans Z0 q25.1
                have F_26 : Old Z n0 h25 := F0.keep q25 all0
                have hR := hR.trans hC25
                refine own_g T25 (mkF m 158 #[.val (.int p1), .val (.int p2), .val (.int p3), .val (.int p4), .val (.int zk), .val (.int zo), .val (.int l1), .val (.int l2), .val (.int k0), .val (.int k1), .val (.int o0), .val (.int o1), .val .null, .unset, .unset] [(.ref bm25)]) st25 ?_
                refine own_f T25 (mkF m 160 #[.val (.int p1), .val (.int p2), .val (.int p3), .val (.int p4), .val (.int zk), .val (.int zo), .val (.int l1), .val (.int l2), .val (.int k0), .val (.int k1), .val (.int o0), .val (.int o1), .val .null, .val (.ref bm25), .unset] []) (fun t k => XS.astore X25.here hx rfl (hb hby at_158) rfl rfl (l' := #[.val (.int p1), .val (.int p2), .val (.int p3), .val (.int p4), .val (.int zk), .val (.int zo), .val (.int l1), .val (.int l2), .val (.int k0), .val (.int k1), .val (.int o0), .val (.int o1), .val .null, .val (.ref bm25), .unset]) rfl k) ?_
                refine own_f T25 (mkF m 162 #[.val (.int p1), .val (.int p2), .val (.int p3), .val (.int p4), .val (.int zk), .val (.int zo), .val (.int l1), .val (.int l2), .val (.int k0), .val (.int k1), .val (.int o0), .val (.int o1), .val .null, .val (.ref bm25), .unset] [(.int zk)]) (fun t k => XS.iload X25.here hx rfl (hb hby at_160) rfl k) ?_
                refine own_f T25 (mkF m 170 #[.val (.int p1), .val (.int p2), .val (.int p3), .val (.int p4), .val (.int zk), .val (.int zo), .val (.int l1), .val (.int l2), .val (.int k0), .val (.int k1), .val (.int o0), .val (.int o1), .val .null, .val (.ref bm25), .unset] []) (fun t k => XS.ifYes X25.here hx rfl (pc0 := 162) (pc' := 170) rfl (hb hby at_162) rfl (XT.i0_ne_t hc6) (by decide) (by decide) k) ?_
                refine own_f T25 (mkF m 171 #[.val (.int p1), .val (.int p2), .val (.int p3), .val (.int p4), .val (.int zk), .val (.int zo), .val (.int l1), .val (.int l2), .val (.int k0), .val (.int k1), .val (.int o0), .val (.int o1), .val .null, .val (.ref bm25), .unset] [(.int (1 : Int32))]) (fun t k => XT.iconstV X25.here hx rfl (1 : Int32) (hb hby at_170) (by decide) k) ?_
                refine own_f T25 (mkF m 173 #[.val (.int p1), .val (.int p2), .val (.int p3), .val (.int p4), .val (.int zk), .val (.int zo), .val (.int l1), .val (.int l2), .val (.int k0), .val (.int k1), .val (.int o0), .val (.int o1), .val .null, .val (.ref bm25), .val (.int (1 : Int32))] []) (fun t k => XS.istore X25.here hx rfl (hb hby at_171) rfl (l' := #[.val (.int p1), .val (.int p2), .val (.int p3), .val (.int p4), .val (.int zk), .val (.int zo), .val (.int l1), .val (.int l2), .val (.int k0), .val (.int k1), .val (.int o0), .val (.int o1), .val .null, .val (.ref bm25), .val (.int (1 : Int32))]) rfl k) ?_
                refine own_f T25 (mkF m 216 #[.val (.int p1), .val (.int p2), .val (.int p3), .val (.int p4), .val (.int zk), .val (.int zo), .val (.int l1), .val (.int l2), .val (.int k0), .val (.int k1), .val (.int o0), .val (.int o1), .val .null, .val (.ref bm25), .val (.int (1 : Int32))] []) (fun t k => XS.goto X25.here hx rfl (pc0 := 173) (pc' := 216) rfl (hb hby at_173) (by decide) (by decide) k) ?_
                refine own_f T25 (mkF m 218 #[.val (.int p1), .val (.int p2), .val (.int p3), .val (.int p4), .val (.int zk), .val (.int zo), .val (.int l1), .val (.int l2), .val (.int k0), .val (.int k1), .val (.int o0), .val (.int o1), .val .null, .val (.ref bm25), .val (.int (1 : Int32))] [.null]) (fun t k => XS.aload X25.here hx rfl (hb hby at_216) rfl rfl k) ?_
                refine own_f T25 (mkF m 220 #[.val (.int p1), .val (.int p2), .val (.int p3), .val (.int p4), .val (.int zk), .val (.int zo), .val (.int l1), .val (.int l2), .val (.int k0), .val (.int k1), .val (.int o0), .val (.int o1), .val .null, .val (.ref bm25), .val (.int (1 : Int32))] [(.ref bm25), .null]) (fun t k => XS.aload X25.here hx rfl (hb hby at_218) rfl rfl k) ?_
                obtain ⟨_, _, ⟨T27, Lq27, kq_27, nq_27⟩, -, X27, ⟨Lc27, hQ27, lq27, yq27, zq27⟩, st27⟩ := Jvm.LawKit.callS X25 hx (y := (⟨"com/example/demarcation/demarcation/SavepointName", "mayMatch", "(Ljava/lang/String;Ljava/lang/String;)Z"⟩ : MethodName)) hown (mvT hZ (own_w hw 0 rfl)) (mvT hZ (own_w hw 1 rfl)) (mvT hZ (own_w hw 2 rfl)) (mvT hZ (own_w hw 3 rfl)) (by decide) (backOf (W := 0) (rmmmnr l Z a0 hw [] (.ref bm25) h25 n0 Zs25 rfl) hZ (own_w hw 3 rfl) (own_w hw 2 rfl) (by decide) (by decide)) (g := (mkF m 220 #[.val (.int p1), .val (.int p2), .val (.int p3), .val (.int p4), .val (.int zk), .val (.int zo), .val (.int l1), .val (.int l2), .val (.int k0), .val (.int k1), .val (.int o0), .val (.int o1), .val .null, .val (.ref bm25), .val (.int (1 : Int32))] [(.ref bm25), .null])) rfl (by rw [hml]; rfl) (argsL := [.null, (.ref bm25)]) (rest := []) (lenOf pd__Ljava_lang_String_Ljava_lang_String_Z rfl) rfl (by show 2 * 0 + _ ≤ _; exact Nat.le_of_eq rfl) (hb hby at_220) (fun _ _ => ⟨rfl, e25, (by decide : 0 + 6 + 0 ≤ _), (by decide : 0 + 16 + 0 ≤ _)⟩)
                dsimp only [Pt.U, Pt.locs, Pt.cells, Pt.slots] at X27 lq27 yq27 zq27 st27 hQ27
                subst lq27 yq27 zq27
                obtain ⟨h27, e27⟩ : ∃ z, T27.heap = z := ⟨_, rfl⟩
                rw [e27] at hQ27
                unfold Qmmnr at hQ27
                obtain ⟨rfl, Nq27, qh27⟩ := hQ27
                have N27 := Fr.app N25 Nq27
                rw [qh27] at e27
                refine own_f T27 (mkF m 223 #[.val (.int p1), .val (.int p2), .val (.int p3), .val (.int p4), .val (.int zk), .val (.int zo), .val (.int l1), .val (.int l2), .val (.int k0), .val (.int k1), .val (.int o0), .val (.int o1), .val .null, .val (.ref bm25), .val (.int (1 : Int32))] [(.int (1 : Int32))]) st27 ?_
                refine own_f T27 (mkF m 225 #[.val (.int p1), .val (.int p2), .val (.int p3), .val (.int p4), .val (.int zk), .val (.int zo), .val (.int l1), .val (.int l2), .val (.int k0), .val (.int k1), .val (.int o0), .val (.int o1), .val .null, .val (.ref bm25), .val (.int (1 : Int32))] [(.int (1 : Int32)), (.int (1 : Int32))]) (fun t k => XS.iload X27.here hx rfl (hb hby at_223) rfl k) ?_
                refine own_f T27 (mkF m 228 #[.val (.int p1), .val (.int p2), .val (.int p3), .val (.int p4), .val (.int zk), .val (.int zo), .val (.int l1), .val (.int l2), .val (.int k0), .val (.int k1), .val (.int o0), .val (.int o1), .val .null, .val (.ref bm25), .val (.int (1 : Int32))] []) (fun t k => XS.icmpNo X27.here hx rfl (hb hby at_225) rfl (XT.ii_ne_f (by decide)) k) ?_
                refine own_f T27 (mkF m 229 #[.val (.int p1), .val (.int p2), .val (.int p3), .val (.int p4), .val (.int zk), .val (.int zo), .val (.int l1), .val (.int l2), .val (.int k0), .val (.int k1), .val (.int o0), .val (.int o1), .val .null, .val (.ref bm25), .val (.int (1 : Int32))] [(.int (1 : Int32))]) (fun t k => XT.iconstV X27.here hx rfl (1 : Int32) (hb hby at_228) (by decide) k) ?_
                refine own_f T27 (mkF m 233 #[.val (.int p1), .val (.int p2), .val (.int p3), .val (.int p4), .val (.int zk), .val (.int zo), .val (.int l1), .val (.int l2), .val (.int k0), .val (.int k1), .val (.int o0), .val (.int o1), .val .null, .val (.ref bm25), .val (.int (1 : Int32))] [(.int (1 : Int32))]) (fun t k => XS.goto X27.here hx rfl (pc0 := 229) (pc' := 233) rfl (hb hby at_229) (by decide) (by decide) k) ?_
                obtain ⟨fs, hr, hrun, hended, hW⟩ := Stand.leaveW (s := s) (vm₁ := T25.vm) X27 hS (by rw [e27]; exact hk) (v := some (.int (1 : Int32))) (fun h => by rw [Bd.returns] at h; cases h)
                refine ⟨_, _, retN X27 hx (t := .boolean) Bd.returns (by simp) (hb hby at_233) hr, hrun, hended, _, _, rfl, ?_, hW.1, hW.2.1, hW.2.2.1, hW.2.2.2.mono (by decide) (by decide)⟩
                show Q0 Z p1 p2 p3 p4 wc h0 n0 _ T27.heap _
                rw [e27]
                exact ⟨rfl, N27⟩
              · skip
                refine own_f s₁ (mkF m 145 #[.val (.int p1), .val (.int p2), .val (.int p3), .val (.int p4), .val (.int zk), .val (.int zo), .val (.int l1), .val (.int l2), .val (.int k0), .val (.int k1), .val (.int o0), .val (.int o1), .val .null, .unset, .unset] []) (fun t k => XS.ifNo X0.here hx rfl (hb hby at_142) rfl (XT.i0_eq_f hc24) k) ?_
                refine own_f s₁ (mkF m 146 #[.val (.int p1), .val (.int p2), .val (.int p3), .val (.int p4), .val (.int zk), .val (.int zo), .val (.int l1), .val (.int l2), .val (.int k0), .val (.int k1), .val (.int o0), .val (.int o1), .val .null, .unset, .unset] [.null]) (fun t k => XS.aconstNull X0.here hx rfl (hb hby at_145) k) ?_
                refine own_f s₁ (mkF m 158 #[.val (.int p1), .val (.int p2), .val (.int p3), .val (.int p4), .val (.int zk), .val (.int zo), .val (.int l1), .val (.int l2), .val (.int k0), .val (.int k1), .val (.int o0), .val (.int o1), .val .null, .unset, .unset] [.null]) (fun t k => XS.goto X0.here hx rfl (pc0 := 146) (pc' := 158) rfl (hb hby at_146) (by decide) (by decide) k) ?_
                refine own_f s₁ (mkF m 160 #[.val (.int p1), .val (.int p2), .val (.int p3), .val (.int p4), .val (.int zk), .val (.int zo), .val (.int l1), .val (.int l2), .val (.int k0), .val (.int k1), .val (.int o0), .val (.int o1), .val .null, .val .null, .unset] []) (fun t k => XS.astore X0.here hx rfl (hb hby at_158) rfl rfl (l' := #[.val (.int p1), .val (.int p2), .val (.int p3), .val (.int p4), .val (.int zk), .val (.int zo), .val (.int l1), .val (.int l2), .val (.int k0), .val (.int k1), .val (.int o0), .val (.int o1), .val .null, .val .null, .unset]) rfl k) ?_
                refine own_f s₁ (mkF m 162 #[.val (.int p1), .val (.int p2), .val (.int p3), .val (.int p4), .val (.int zk), .val (.int zo), .val (.int l1), .val (.int l2), .val (.int k0), .val (.int k1), .val (.int o0), .val (.int o1), .val .null, .val .null, .unset] [(.int zk)]) (fun t k => XS.iload X0.here hx rfl (hb hby at_160) rfl k) ?_
                refine own_f s₁ (mkF m 170 #[.val (.int p1), .val (.int p2), .val (.int p3), .val (.int p4), .val (.int zk), .val (.int zo), .val (.int l1), .val (.int l2), .val (.int k0), .val (.int k1), .val (.int o0), .val (.int o1), .val .null, .val .null, .unset] []) (fun t k => XS.ifYes X0.here hx rfl (pc0 := 162) (pc' := 170) rfl (hb hby at_162) rfl (XT.i0_ne_t hc6) (by decide) (by decide) k) ?_
                refine own_f s₁ (mkF m 171 #[.val (.int p1), .val (.int p2), .val (.int p3), .val (.int p4), .val (.int zk), .val (.int zo), .val (.int l1), .val (.int l2), .val (.int k0), .val (.int k1), .val (.int o0), .val (.int o1), .val .null, .val .null, .unset] [(.int (1 : Int32))]) (fun t k => XT.iconstV X0.here hx rfl (1 : Int32) (hb hby at_170) (by decide) k) ?_
                refine own_f s₁ (mkF m 173 #[.val (.int p1), .val (.int p2), .val (.int p3), .val (.int p4), .val (.int zk), .val (.int zo), .val (.int l1), .val (.int l2), .val (.int k0), .val (.int k1), .val (.int o0), .val (.int o1), .val .null, .val .null, .val (.int (1 : Int32))] []) (fun t k => XS.istore X0.here hx rfl (hb hby at_171) rfl (l' := #[.val (.int p1), .val (.int p2), .val (.int p3), .val (.int p4), .val (.int zk), .val (.int zo), .val (.int l1), .val (.int l2), .val (.int k0), .val (.int k1), .val (.int o0), .val (.int o1), .val .null, .val .null, .val (.int (1 : Int32))]) rfl k) ?_
                refine own_f s₁ (mkF m 216 #[.val (.int p1), .val (.int p2), .val (.int p3), .val (.int p4), .val (.int zk), .val (.int zo), .val (.int l1), .val (.int l2), .val (.int k0), .val (.int k1), .val (.int o0), .val (.int o1), .val .null, .val .null, .val (.int (1 : Int32))] []) (fun t k => XS.goto X0.here hx rfl (pc0 := 173) (pc' := 216) rfl (hb hby at_173) (by decide) (by decide) k) ?_
                refine own_f s₁ (mkF m 218 #[.val (.int p1), .val (.int p2), .val (.int p3), .val (.int p4), .val (.int zk), .val (.int zo), .val (.int l1), .val (.int l2), .val (.int k0), .val (.int k1), .val (.int o0), .val (.int o1), .val .null, .val .null, .val (.int (1 : Int32))] [.null]) (fun t k => XS.aload X0.here hx rfl (hb hby at_216) rfl rfl k) ?_
                refine own_f s₁ (mkF m 220 #[.val (.int p1), .val (.int p2), .val (.int p3), .val (.int p4), .val (.int zk), .val (.int zo), .val (.int l1), .val (.int l2), .val (.int k0), .val (.int k1), .val (.int o0), .val (.int o1), .val .null, .val .null, .val (.int (1 : Int32))] [.null, .null]) (fun t k => XS.aload X0.here hx rfl (hb hby at_218) rfl rfl k) ?_
                obtain ⟨_, _, ⟨T28, Lq28, kq_28, nq_28⟩, -, X28, ⟨Lc28, hQ28, lq28, yq28, zq28⟩, st28⟩ := Jvm.LawKit.callS X0 hx (y := (⟨"com/example/demarcation/demarcation/SavepointName", "mayMatch", "(Ljava/lang/String;Ljava/lang/String;)Z"⟩ : MethodName)) hown (mvT hZ (own_w hw 0 rfl)) (mvT hZ (own_w hw 1 rfl)) (mvT hZ (own_w hw 2 rfl)) (mvT hZ (own_w hw 3 rfl)) (by decide) (backOf (W := 0) (rmmmnr l Z a0 hw [] .null h0 n0 Z0 rfl) hZ (own_w hw 3 rfl) (own_w hw 2 rfl) (by decide) (by decide)) (g := (mkF m 220 #[.val (.int p1), .val (.int p2), .val (.int p3), .val (.int p4), .val (.int zk), .val (.int zo), .val (.int l1), .val (.int l2), .val (.int k0), .val (.int k1), .val (.int o0), .val (.int o1), .val .null, .val .null, .val (.int (1 : Int32))] [.null, .null])) rfl (by rw [hml]; rfl) (argsL := [.null, .null]) (rest := []) (lenOf pd__Ljava_lang_String_Ljava_lang_String_Z rfl) rfl (by show 2 * 0 + _ ≤ _; exact Nat.le_of_eq rfl) (hb hby at_220) (fun _ _ => ⟨rfl, e0, (by decide : 0 + 0 ≤ _), (by decide : 0 + 0 ≤ _)⟩)
                dsimp only [Pt.U, Pt.locs, Pt.cells, Pt.slots] at X28 lq28 yq28 zq28 st28 hQ28
                subst lq28 yq28 zq28
                obtain ⟨h28, e28⟩ : ∃ z, T28.heap = z := ⟨_, rfl⟩
                rw [e28] at hQ28
                unfold Qmmnr at hQ28
                obtain ⟨rfl, Nq28, qh28⟩ := hQ28
                have N28 := Fr.app N0 Nq28
                rw [qh28] at e28
                refine own_f T28 (mkF m 223 #[.val (.int p1), .val (.int p2), .val (.int p3), .val (.int p4), .val (.int zk), .val (.int zo), .val (.int l1), .val (.int l2), .val (.int k0), .val (.int k1), .val (.int o0), .val (.int o1), .val .null, .val .null, .val (.int (1 : Int32))] [(.int (1 : Int32))]) st28 ?_
                refine own_f T28 (mkF m 225 #[.val (.int p1), .val (.int p2), .val (.int p3), .val (.int p4), .val (.int zk), .val (.int zo), .val (.int l1), .val (.int l2), .val (.int k0), .val (.int k1), .val (.int o0), .val (.int o1), .val .null, .val .null, .val (.int (1 : Int32))] [(.int (1 : Int32)), (.int (1 : Int32))]) (fun t k => XS.iload X28.here hx rfl (hb hby at_223) rfl k) ?_
                refine own_f T28 (mkF m 228 #[.val (.int p1), .val (.int p2), .val (.int p3), .val (.int p4), .val (.int zk), .val (.int zo), .val (.int l1), .val (.int l2), .val (.int k0), .val (.int k1), .val (.int o0), .val (.int o1), .val .null, .val .null, .val (.int (1 : Int32))] []) (fun t k => XS.icmpNo X28.here hx rfl (hb hby at_225) rfl (XT.ii_ne_f (by decide)) k) ?_
                refine own_f T28 (mkF m 229 #[.val (.int p1), .val (.int p2), .val (.int p3), .val (.int p4), .val (.int zk), .val (.int zo), .val (.int l1), .val (.int l2), .val (.int k0), .val (.int k1), .val (.int o0), .val (.int o1), .val .null, .val .null, .val (.int (1 : Int32))] [(.int (1 : Int32))]) (fun t k => XT.iconstV X28.here hx rfl (1 : Int32) (hb hby at_228) (by decide) k) ?_
                refine own_f T28 (mkF m 233 #[.val (.int p1), .val (.int p2), .val (.int p3), .val (.int p4), .val (.int zk), .val (.int zo), .val (.int l1), .val (.int l2), .val (.int k0), .val (.int k1), .val (.int o0), .val (.int o1), .val .null, .val .null, .val (.int (1 : Int32))] [(.int (1 : Int32))]) (fun t k => XS.goto X28.here hx rfl (pc0 := 229) (pc' := 233) rfl (hb hby at_229) (by decide) (by decide) k) ?_
                obtain ⟨fs, hr, hrun, hended, hW⟩ := Stand.leaveW (s := s) (vm₁ := s.vm) X28 hS (by rw [e28]; exact hk) (v := some (.int (1 : Int32))) (fun h => by rw [Bd.returns] at h; cases h)
                refine ⟨_, _, retN X28 hx (t := .boolean) Bd.returns (by simp) (hb hby at_233) hr, hrun, hended, _, _, rfl, ?_, hW.1, hW.2.1, hW.2.2.1, hW.2.2.2.mono (by decide) (by decide)⟩
                show Q0 Z p1 p2 p3 p4 wc h0 n0 _ T28.heap _
                rw [e28]
                exact ⟨rfl, N28⟩
          by_cases hc29 : (p4 &&& (2 : Int32)) = 0
          · skip
            refine own_f s₁ (mkF m 116 #[.val (.int p1), .val (.int p2), .val (.int p3), .val (.int p4), .val (.int zk), .val (.int zo), .val (.int l1), .val (.int l2), .val (.int k0), .val (.int k1), .val (.int o0), .unset, .unset, .unset, .unset] []) (fun t k => XS.ifYes X0.here hx rfl (pc0 := 101) (pc' := 116) rfl (hb hby at_101) rfl (XT.i0_eq_t hc29) (by decide) (by decide) k) ?_
            refine own_f s₁ (mkF m 118 #[.val (.int p1), .val (.int p2), .val (.int p3), .val (.int p4), .val (.int zk), .val (.int zo), .val (.int l1), .val (.int l2), .val (.int k0), .val (.int k1), .val (.int o0), .unset, .unset, .unset, .unset] [(.int k1)]) (fun t k => XS.iload X0.here hx rfl (hb hby at_116) rfl k) ?_
            exact jn5 k1 jk1
          · skip
            refine own_f s₁ (mkF m 104 #[.val (.int p1), .val (.int p2), .val (.int p3), .val (.int p4), .val (.int zk), .val (.int zo), .val (.int l1), .val (.int l2), .val (.int k0), .val (.int k1), .val (.int o0), .unset, .unset, .unset, .unset] []) (fun t k => XS.ifNo X0.here hx rfl (hb hby at_101) rfl (XT.i0_eq_f hc29) k) ?_
            refine own_f s₁ (mkF m 105 #[.val (.int p1), .val (.int p2), .val (.int p3), .val (.int p4), .val (.int zk), .val (.int zo), .val (.int l1), .val (.int l2), .val (.int k0), .val (.int k1), .val (.int o0), .unset, .unset, .unset, .unset] [(.int p3)]) (fun t k => XS.iloadN X0.here hx rfl (hb hby at_104) rfl k) ?_
            refine own_f s₁ (mkF m 107 #[.val (.int p1), .val (.int p2), .val (.int p3), .val (.int p4), .val (.int zk), .val (.int zo), .val (.int l1), .val (.int l2), .val (.int k0), .val (.int k1), .val (.int o0), .unset, .unset, .unset, .unset] [(.int (8 : Int32)), (.int p3)]) (fun t k => XT.bipushV X0.here hx rfl (8 : Int32) (hb hby at_105) (by decide) k) ?_
            refine own_f s₁ (mkF m 108 #[.val (.int p1), .val (.int p2), .val (.int p3), .val (.int p4), .val (.int zk), .val (.int zo), .val (.int l1), .val (.int l2), .val (.int k0), .val (.int k1), .val (.int o0), .unset, .unset, .unset, .unset] [(.int ((p3.toUInt32 >>> ((8 : Int32) &&& 31).toUInt32).toInt32))]) (fun t k => XS.iushr X0.here hx rfl (hb hby at_107) rfl k) ?_
            refine own_f s₁ (mkF m 111 #[.val (.int p1), .val (.int p2), .val (.int p3), .val (.int p4), .val (.int zk), .val (.int zo), .val (.int l1), .val (.int l2), .val (.int k0), .val (.int k1), .val (.int o0), .unset, .unset, .unset, .unset] [(.int (255 : Int32)), (.int ((p3.toUInt32 >>> ((8 : Int32) &&& 31).toUInt32).toInt32))]) (fun t k => XT.sipushV X0.here hx rfl (255 : Int32) (hb hby at_108) (by decide) k) ?_
            refine own_f s₁ (mkF m 112 #[.val (.int p1), .val (.int p2), .val (.int p3), .val (.int p4), .val (.int zk), .val (.int zo), .val (.int l1), .val (.int l2), .val (.int k0), .val (.int k1), .val (.int o0), .unset, .unset, .unset, .unset] [(.int (((p3.toUInt32 >>> ((8 : Int32) &&& 31).toUInt32).toInt32) &&& (255 : Int32)))]) (fun t k => XS.iand X0.here hx rfl (hb hby at_111) rfl k) ?_
            refine own_f s₁ (mkF m 113 #[.val (.int p1), .val (.int p2), .val (.int p3), .val (.int p4), .val (.int zk), .val (.int zo), .val (.int l1), .val (.int l2), .val (.int k0), .val (.int k1), .val (.int o0), .unset, .unset, .unset, .unset] [(.int ((((p3.toUInt32 >>> ((8 : Int32) &&& 31).toUInt32).toInt32) &&& (255 : Int32)).toUInt32.toUInt16.toUInt32.toInt32))]) (fun t k => XS.i2c X0.here hx rfl (hb hby at_112) rfl k) ?_
            refine own_f s₁ (mkF m 118 #[.val (.int p1), .val (.int p2), .val (.int p3), .val (.int p4), .val (.int zk), .val (.int zo), .val (.int l1), .val (.int l2), .val (.int k0), .val (.int k1), .val (.int o0), .unset, .unset, .unset, .unset] [(.int ((((p3.toUInt32 >>> ((8 : Int32) &&& 31).toUInt32).toInt32) &&& (255 : Int32)).toUInt32.toUInt16.toUInt32.toInt32))]) (fun t k => XS.goto X0.here hx rfl (pc0 := 113) (pc' := 118) rfl (hb hby at_113) (by decide) (by decide) k) ?_
            exact jn5 ((((p3.toUInt32 >>> ((8 : Int32) &&& 31).toUInt32).toInt32) &&& (255 : Int32)).toUInt32.toUInt16.toUInt32.toInt32) (own_Bc _)
        by_cases hc30 : (p4 &&& (1 : Int32)) = 0
        · skip
          refine own_f s₁ (mkF m 94 #[.val (.int p1), .val (.int p2), .val (.int p3), .val (.int p4), .val (.int zk), .val (.int zo), .val (.int l1), .val (.int l2), .val (.int k0), .val (.int k1), .unset, .unset, .unset, .unset, .unset] []) (fun t k => XS.ifYes X0.here hx rfl (pc0 := 82) (pc' := 94) rfl (hb hby at_82) rfl (XT.i0_eq_t hc30) (by decide) (by decide) k) ?_
          refine own_f s₁ (mkF m 96 #[.val (.int p1), .val (.int p2), .val (.int p3), .val (.int p4), .val (.int zk), .val (.int zo), .val (.int l1), .val (.int l2), .val (.int k0), .val (.int k1), .unset, .unset, .unset, .unset, .unset] [(.int k0)]) (fun t k => XS.iload X0.here hx rfl (hb hby at_94) rfl k) ?_
          exact jn4 k0 jk0
        · skip
          refine own_f s₁ (mkF m 85 #[.val (.int p1), .val (.int p2), .val (.int p3), .val (.int p4), .val (.int zk), .val (.int zo), .val (.int l1), .val (.int l2), .val (.int k0), .val (.int k1), .unset, .unset, .unset, .unset, .unset] []) (fun t k => XS.ifNo X0.here hx rfl (hb hby at_82) rfl (XT.i0_eq_f hc30) k) ?_
          refine own_f s₁ (mkF m 86 #[.val (.int p1), .val (.int p2), .val (.int p3), .val (.int p4), .val (.int zk), .val (.int zo), .val (.int l1), .val (.int l2), .val (.int k0), .val (.int k1), .unset, .unset, .unset, .unset, .unset] [(.int p3)]) (fun t k => XS.iloadN X0.here hx rfl (hb hby at_85) rfl k) ?_
          refine own_f s₁ (mkF m 89 #[.val (.int p1), .val (.int p2), .val (.int p3), .val (.int p4), .val (.int zk), .val (.int zo), .val (.int l1), .val (.int l2), .val (.int k0), .val (.int k1), .unset, .unset, .unset, .unset, .unset] [(.int (255 : Int32)), (.int p3)]) (fun t k => XT.sipushV X0.here hx rfl (255 : Int32) (hb hby at_86) (by decide) k) ?_
          refine own_f s₁ (mkF m 90 #[.val (.int p1), .val (.int p2), .val (.int p3), .val (.int p4), .val (.int zk), .val (.int zo), .val (.int l1), .val (.int l2), .val (.int k0), .val (.int k1), .unset, .unset, .unset, .unset, .unset] [(.int (p3 &&& (255 : Int32)))]) (fun t k => XS.iand X0.here hx rfl (hb hby at_89) rfl k) ?_
          refine own_f s₁ (mkF m 91 #[.val (.int p1), .val (.int p2), .val (.int p3), .val (.int p4), .val (.int zk), .val (.int zo), .val (.int l1), .val (.int l2), .val (.int k0), .val (.int k1), .unset, .unset, .unset, .unset, .unset] [(.int ((p3 &&& (255 : Int32)).toUInt32.toUInt16.toUInt32.toInt32))]) (fun t k => XS.i2c X0.here hx rfl (hb hby at_90) rfl k) ?_
          refine own_f s₁ (mkF m 96 #[.val (.int p1), .val (.int p2), .val (.int p3), .val (.int p4), .val (.int zk), .val (.int zo), .val (.int l1), .val (.int l2), .val (.int k0), .val (.int k1), .unset, .unset, .unset, .unset, .unset] [(.int ((p3 &&& (255 : Int32)).toUInt32.toUInt16.toUInt32.toInt32))]) (fun t k => XS.goto X0.here hx rfl (pc0 := 91) (pc' := 96) rfl (hb hby at_91) (by decide) (by decide) k) ?_
          exact jn4 ((p3 &&& (255 : Int32)).toUInt32.toUInt16.toUInt32.toInt32) (own_Bc _)
      by_cases hc31 : (p1 &&& (256 : Int32)) = 0
      · skip
        refine own_f s₁ (mkF m 50 #[.val (.int p1), .val (.int p2), .val (.int p3), .val (.int p4), .val (.int zk), .val (.int zo), .val (.int l1), .unset, .unset, .unset, .unset, .unset, .unset, .unset, .unset] []) (fun t k => XS.ifYes X0.here hx rfl (pc0 := 42) (pc' := 50) rfl (hb hby at_42) rfl (XT.i0_eq_t hc31) (by decide) (by decide) k) ?_
        refine own_f s₁ (mkF m 51 #[.val (.int p1), .val (.int p2), .val (.int p3), .val (.int p4), .val (.int zk), .val (.int zo), .val (.int l1), .unset, .unset, .unset, .unset, .unset, .unset, .unset, .unset] [(.int p1)]) (fun t k => XS.iloadN X0.here hx rfl (hb hby at_50) rfl k) ?_
        refine own_f s₁ (mkF m 53 #[.val (.int p1), .val (.int p2), .val (.int p3), .val (.int p4), .val (.int zk), .val (.int zo), .val (.int l1), .unset, .unset, .unset, .unset, .unset, .unset, .unset, .unset] [(.int (9 : Int32)), (.int p1)]) (fun t k => XT.bipushV X0.here hx rfl (9 : Int32) (hb hby at_51) (by decide) k) ?_
        refine own_f s₁ (mkF m 54 #[.val (.int p1), .val (.int p2), .val (.int p3), .val (.int p4), .val (.int zk), .val (.int zo), .val (.int l1), .unset, .unset, .unset, .unset, .unset, .unset, .unset, .unset] [(.int ((p1.toUInt32 >>> ((9 : Int32) &&& 31).toUInt32).toInt32))]) (fun t k => XS.iushr X0.here hx rfl (hb hby at_53) rfl k) ?_
        refine own_f s₁ (mkF m 55 #[.val (.int p1), .val (.int p2), .val (.int p3), .val (.int p4), .val (.int zk), .val (.int zo), .val (.int l1), .unset, .unset, .unset, .unset, .unset, .unset, .unset, .unset] [(.int (3 : Int32)), (.int ((p1.toUInt32 >>> ((9 : Int32) &&& 31).toUInt32).toInt32))]) (fun t k => XT.iconstV X0.here hx rfl (3 : Int32) (hb hby at_54) (by decide) k) ?_
        refine own_f s₁ (mkF m 56 #[.val (.int p1), .val (.int p2), .val (.int p3), .val (.int p4), .val (.int zk), .val (.int zo), .val (.int l1), .unset, .unset, .unset, .unset, .unset, .unset, .unset, .unset] [(.int (((p1.toUInt32 >>> ((9 : Int32) &&& 31).toUInt32).toInt32) &&& (3 : Int32)))]) (fun t k => XS.iand X0.here hx rfl (hb hby at_55) rfl k) ?_
        refine own_f s₁ (mkF m 57 #[.val (.int p1), .val (.int p2), .val (.int p3), .val (.int p4), .val (.int zk), .val (.int zo), .val (.int l1), .unset, .unset, .unset, .unset, .unset, .unset, .unset, .unset] [(.int (3 : Int32)), (.int (((p1.toUInt32 >>> ((9 : Int32) &&& 31).toUInt32).toInt32) &&& (3 : Int32)))]) (fun t k => XT.iconstV X0.here hx rfl (3 : Int32) (hb hby at_56) (by decide) k) ?_
        refine own_f s₁ (mkF m 58 #[.val (.int p1), .val (.int p2), .val (.int p3), .val (.int p4), .val (.int zk), .val (.int zo), .val (.int l1), .unset, .unset, .unset, .unset, .unset, .unset, .unset, .unset] [(.int ((((p1.toUInt32 >>> ((9 : Int32) &&& 31).toUInt32).toInt32) &&& (3 : Int32)) % (3 : Int32)))]) (fun t k => iremM X0 hx rfl (hb hby at_57) rfl (by decide) k) ?_
        exact jn3 ((((p1.toUInt32 >>> ((9 : Int32) &&& 31).toUInt32).toInt32) &&& (3 : Int32)) % (3 : Int32)) (own_rem _)
      · skip
        refine own_f s₁ (mkF m 45 #[.val (.int p1), .val (.int p2), .val (.int p3), .val (.int p4), .val (.int zk), .val (.int zo), .val (.int l1), .unset, .unset, .unset, .unset, .unset, .unset, .unset, .unset] []) (fun t k => XS.ifNo X0.here hx rfl (hb hby at_42) rfl (XT.i0_eq_f hc31) k) ?_
        refine own_f s₁ (mkF m 47 #[.val (.int p1), .val (.int p2), .val (.int p3), .val (.int p4), .val (.int zk), .val (.int zo), .val (.int l1), .unset, .unset, .unset, .unset, .unset, .unset, .unset, .unset] [(.int l1)]) (fun t k => XS.iload X0.here hx rfl (hb hby at_45) rfl k) ?_
        refine own_f s₁ (mkF m 58 #[.val (.int p1), .val (.int p2), .val (.int p3), .val (.int p4), .val (.int zk), .val (.int zo), .val (.int l1), .unset, .unset, .unset, .unset, .unset, .unset, .unset, .unset] [(.int l1)]) (fun t k => XS.goto X0.here hx rfl (pc0 := 47) (pc' := 58) rfl (hb hby at_47) (by decide) (by decide) k) ?_
        exact jn3 l1 jl1
    by_cases hc32 : (((p1.toUInt32 >>> ((2 : Int32) &&& 31).toUInt32).toInt32) &&& (3 : Int32)) = 0
    · skip
      refine own_f s₁ (mkF m 21 #[.val (.int p1), .val (.int p2), .val (.int p3), .val (.int p4), .val (.int zk), .unset, .unset, .unset, .unset, .unset, .unset, .unset, .unset, .unset, .unset] []) (fun t k => XS.ifNo X0.here hx rfl (hb hby at_18) rfl (XT.i0_ne_f hc32) k) ?_
      refine own_f s₁ (mkF m 22 #[.val (.int p1), .val (.int p2), .val (.int p3), .val (.int p4), .val (.int zk), .unset, .unset, .unset, .unset, .unset, .unset, .unset, .unset, .unset, .unset] [(.int (1 : Int32))]) (fun t k => XT.iconstV X0.here hx rfl (1 : Int32) (hb hby at_21) (by decide) k) ?_
      refine own_f s₁ (mkF m 26 #[.val (.int p1), .val (.int p2), .val (.int p3), .val (.int p4), .val (.int zk), .unset, .unset, .unset, .unset, .unset, .unset, .unset, .unset, .unset, .unset] [(.int (1 : Int32))]) (fun t k => XS.goto X0.here hx rfl (pc0 := 22) (pc' := 26) rfl (hb hby at_22) (by decide) (by decide) k) ?_
      exact jn2 (1 : Int32)
    · skip
      refine own_f s₁ (mkF m 25 #[.val (.int p1), .val (.int p2), .val (.int p3), .val (.int p4), .val (.int zk), .unset, .unset, .unset, .unset, .unset, .unset, .unset, .unset, .unset, .unset] []) (fun t k => XS.ifYes X0.here hx rfl (pc0 := 18) (pc' := 25) rfl (hb hby at_18) rfl (XT.i0_ne_t hc32) (by decide) (by decide) k) ?_
      refine own_f s₁ (mkF m 26 #[.val (.int p1), .val (.int p2), .val (.int p3), .val (.int p4), .val (.int zk), .unset, .unset, .unset, .unset, .unset, .unset, .unset, .unset, .unset, .unset] [(.int (0 : Int32))]) (fun t k => XT.iconstV X0.here hx rfl (0 : Int32) (hb hby at_25) (by decide) k) ?_
      exact jn2 (0 : Int32)
  by_cases hc33 : (p1 &&& (3 : Int32)) = 0
  · skip
    refine own_f s₁ (mkF m 6 #[.val (.int p1), .val (.int p2), .val (.int p3), .val (.int p4), .unset, .unset, .unset, .unset, .unset, .unset, .unset, .unset, .unset, .unset, .unset] []) (fun t k => XS.ifNo X0.here hx rfl (hb hby at_3) rfl (XT.i0_ne_f hc33) k) ?_
    refine own_f s₁ (mkF m 7 #[.val (.int p1), .val (.int p2), .val (.int p3), .val (.int p4), .unset, .unset, .unset, .unset, .unset, .unset, .unset, .unset, .unset, .unset, .unset] [(.int (1 : Int32))]) (fun t k => XT.iconstV X0.here hx rfl (1 : Int32) (hb hby at_6) (by decide) k) ?_
    refine own_f s₁ (mkF m 11 #[.val (.int p1), .val (.int p2), .val (.int p3), .val (.int p4), .unset, .unset, .unset, .unset, .unset, .unset, .unset, .unset, .unset, .unset, .unset] [(.int (1 : Int32))]) (fun t k => XS.goto X0.here hx rfl (pc0 := 7) (pc' := 11) rfl (hb hby at_7) (by decide) (by decide) k) ?_
    exact jn1 (1 : Int32)
  · skip
    refine own_f s₁ (mkF m 10 #[.val (.int p1), .val (.int p2), .val (.int p3), .val (.int p4), .unset, .unset, .unset, .unset, .unset, .unset, .unset, .unset, .unset, .unset, .unset] []) (fun t k => XS.ifYes X0.here hx rfl (pc0 := 3) (pc' := 10) rfl (hb hby at_3) rfl (XT.i0_ne_t hc33) (by decide) (by decide) k) ?_
    refine own_f s₁ (mkF m 11 #[.val (.int p1), .val (.int p2), .val (.int p3), .val (.int p4), .unset, .unset, .unset, .unset, .unset, .unset, .unset, .unset, .unset, .unset, .unset] [(.int (0 : Int32))]) (fun t k => XT.iconstV X0.here hx rfl (0 : Int32) (hb hby at_10) (by decide) k) ?_
    exact jn1 (0 : Int32)
set_option maxRecDepth 65536 in
set_option maxHeartbeats 40000000 in
theorem comes_1 {Post : Tables → Env → Array Value → State → Outcome → State → Prop} (hpost : ∀ tb e args s v u, (limb_1_1.after args s (.returned v) u = true ∧ limb_1_2.after args s (.returned v) u = true ∧ True) → ReturnedEndW s (.returned v) u (Jvm.fieldLocs frame_1_writes args s ++ Jvm.arrayLocs frame_1_arrays args s ++ Jvm.staticLocs frame_1_statics s) 24 1152 → Post tb e args s (.returned v) u) :
    ArmFor flags0 classFile x code maxLocals ret World_1 tables_1 room_1 Calls_1 rest_1 Pre_1 Post := by
  intro l hfl _ _ p e ha hc hk s m args below hf hA hF happ hP
  obtain ⟨hcalls, hrest, hpre⟩ := hP
  obtain ⟨-, -, -, hnamed, -, -, -, hat⟩ := (Spec.applies_iff hf).mp happ
  obtain ⟨hg, hn⟩ := and_e (Cond.before_iff.mp (show (Jvm.Cond.and given_1 narrow_1).before args s = true from hpre))
  obtain ⟨g0, r0⟩ := and_e hg
  obtain ⟨g1, r1⟩ := and_e r0
  obtain ⟨g2, r2⟩ := and_e r1
  obtain ⟨g3, r3⟩ := and_e r2
  obtain ⟨w0, w1, w2, w3, rfl⟩ : ∃ w0 w1 w2 w3 : Value, args = #[w0, w1, w2, w3] := by
    have hs : args.size = 4 := by simpa [Cond.value, given_1] using g0
    obtain ⟨L⟩ := args
    match L, hs with
    | [w0, w1, w2, w3], _ => exact ⟨w0, w1, w2, w3, rfl⟩
  have hw := fun d (hd : d ∈ tables_1) => atoms_spec (ws := Jvm.Cond.code x code maxLocals ret :: tables_1) hat d (List.mem_cons_of_mem _ hd)
  obtain ⟨hsets, hown0⟩ := atoms_of _ (rest_1_c_eq ▸ (show rest_1_c.before _ s = true from hrest))
  have hfit : Fit s := fun {y c} hc i hi => by
    obtain ⟨ha, rfl⟩ := Array.getElem?_eq_some_iff.mp hc
    have q := List.all_eq_true.mp ((Array.all_eq_true_iff_forall_mem.mp hF) _ (Array.getElem_mem ha)) i (List.mem_range.mpr hi)
    simpa [Array.getElem?_eq_getElem hi] using q
  obtain ⟨i0, ev0⟩ := is_v g1
  obtain rfl : w0 = (.int i0) := Option.some.inj ev0
  obtain ⟨i1, ev1⟩ := is_v g2
  obtain rfl : w1 = (.int i1) := Option.some.inj ev1
  obtain ⟨i2, ev2⟩ := is_v g3
  obtain rfl : w2 = (.int i2) := Option.some.inj ev2
  obtain ⟨i3, ev3⟩ := is_v r3
  obtain rfl : w3 = (.int i3) := Option.some.inj ev3
  have n5 := not_v (Cond.before_iff.mp (hsets _ (List.mem_of_getElem? (i := 2) rfl)))
  obtain ⟨wc, e10⟩ := is_v (Cond.before_iff.mp (hsets _ (List.mem_of_getElem? (i := 1) rfl)))
  have SC : Sta s s.heap "java/lang/String" "COMPACT_STRINGS" "Z" (.int wc) := Sta.start e10 (Or.inl (hsets _ (List.mem_of_getElem? (i := 0) rfl)))
  have HWC : ¬ (wc = (0 : Int32)) := gotF (Cond.eq_ints e10 (Term.int_eval (0))) n5
  obtain ⟨n, o, h1, h2, h3, _, L, rfl, ⟨rfl, N⟩, hq⟩ := rm0 l s _ hw tables_1 i0 i1 i2 i3 wc s.heap s.heap.size (Nat.le_refl _) (Old.start s) SC HWC p e ha hc hk s m _ below hf ((Spec.applies_iff_loose hf).mp happ).1 ⟨rfl, State.Warmed39.refl s, rfl, CHv.start (own_EW hw) (fun p hp => hcalls.1 p hp) (hsets _ (List.mem_of_getElem? (i := 2) rfl)) (own_w hw 23 rfl) (own_w hw 9 rfl)⟩ trivial
  refine ⟨n, _, h1, h2, h3, hpost _ _ _ _ _ _ ⟨Cond.after_iff.mpr rfl, Cond.after_iff.mpr (eq_i res_at (Term.int_eval (1)) rfl), trivial⟩ ⟨hq.1, hq.2.1, hq.2.2.1, (hq.2.2.2.sift fun y hy => Or.inr (N y hy)).mono (by decide) (by decide)⟩⟩
theorem main_1_1 : Claimed_1_1 := comes_1 fun _ _ _ _ _ _ h hF => ⟨h.1, hF⟩
theorem main_1_2 : Claimed_1_2 := comes_1 fun _ _ _ _ _ _ h hF => ⟨h.2.1, hF⟩
end Jvm.Pilot.@@N@@
namespace Jvm.Pilot.@@N@@
open Jvm Jvm.ClassFile Sem Op Lib Jvm.Free Jvm.Stand Jvm.Pilot.@@N@@.Jvm.D
/-! MADE BY PROGRAM (witnessworld.py) out of the Statement's table words and the real class files: 21 classes; the members and pool entries that the words name. The judged class is class 1, her method 2. -/
namespace start1
open Jvm.ClassFile
def u (s : String) : CpInfo := .utf8 (stringToUtf16 s)
/-- a pool by its gaps: so many unusable entries, then the entry; so many at the end -/
def gap : Nat → List CpInfo → List CpInfo
  | 0, r => r
  | n + 1, r => .unusable :: gap n r
def poolList (es : List (Nat × CpInfo)) (last : Nat) : List CpInfo := es.foldr (fun e r => gap e.1 (e.2 :: r)) (gap last [])
def pool (es : List (Nat × CpInfo)) (last : Nat) : Array CpInfo := ⟨poolList es last⟩
def fileOf (pool : Array CpInfo) (this : Nat) (attrs : Array Attribute := #[]) (ms : Array MethodInfo := #[]) (fl : Nat := 33) (sup : Nat := 0) (ifs : Array Nat := #[]) (fds : Array FieldInfo := #[]) : ClassFile where
  minorVersion := 0
  majorVersion := 65
  constantPool := pool
  accessFlags := fl
  thisClass := this
  superClass := sup
  interfaces := ifs
  fields := fds
  methods := ms
  attributes := attrs
def plain (name : String) (sup : Option ClassId) : Class where
  name := name
  kind := .ordinary
  loader := none
  accessFlags := 33
  super := sup
  interfaces := #[]
  cf := none
  fields := #[]
  methods := #[]
  instanceTypes := #[]
  staticTypes := #[]
  resolved := #[]
  callSites := []
  init := .initialized
  statics := none
  mirror := none

def pool0 : Array CpInfo := pool [(5, u "<init>"), (0, u "()V"), (1, .class_ 10), (1, u "java/lang/Object")] 113

def k0c0 : Code := { maxStack := 0, maxLocals := 1, code := object_method_1_code, exceptionTable := #[], attributes := #[] }
def k0m0 : Method := { name := "<init>", desc := "()V", sig := { parameters := [], returnType := none }, accessFlags := 1, code := some k0c0 }
/-- java/lang/Object -/
def k0 : Class := { plain "java/lang/Object" none with
  accessFlags := 33
  interfaces := #[]
  cf := some (fileOf pool0 8 #[] #[{ accessFlags := 1, nameIndex := 5, descriptorIndex := 6, attributes := #[] }] 33 0 #[] #[])
  fields := #[]
  methods := #[k0m0]
  instanceTypes := #[]
  staticTypes := #[]
  resolved := Array.replicate 124 none
  statics := none }

def pool1 : Array CpInfo := pool [(2, .class_ 4), (1, u "java/lang/Object"), (0, u "<init>"), (0, u "()V"), (0, .class_ 8), (0, u "java/lang/String"), (0, .methodref 7 10), (0, .nameAndType 5 11), (0, u "([C)V"), (0, .methodref 13 14), (0, .class_ 15), (0, .nameAndType 16 17), (0, u "com/example/demarcation/demarcation/SavepointNameMayMatchPinLaw"), (0, u "mk"), (0, u "(ICC)Ljava/lang/String;"), (0, .methodref 19 20), (0, .class_ 21), (0, .nameAndType 22 23), (0, u "com/example/demarcation/demarcation/SavepointName"), (0, u "mayMatch"), (0, u "(Ljava/lang/String;Ljava/lang/String;)Z"), (3, u "law"), (0, u "(IIII)Z")] 2

def k1m0 : Method := { name := "<init>", desc := "()V", sig := { parameters := [], returnType := none }, accessFlags := 1, code := none }
def k1c1 : Code := { maxStack := 6, maxLocals := 3, code := method_2_code, exceptionTable := #[], attributes := #[] }
def k1m1 : Method := { name := "mk", desc := "(ICC)Ljava/lang/String;", sig := { parameters := [.int, .char, .char], returnType := some (.object "java/lang/String") }, accessFlags := 10, code := some k1c1 }
def k1c2 : Code := { maxStack := 3, maxLocals := 15, code := code, exceptionTable := #[], attributes := #[] }
def k1m2 : Method := { name := "law", desc := "(IIII)Z", sig := { parameters := [.int, .int, .int, .int], returnType := some .boolean }, accessFlags := 9, code := some k1c2 }
/-- com/example/demarcation/demarcation/SavepointNameMayMatchPinLaw -/
def k1 : Class := { plain "com/example/demarcation/demarcation/SavepointNameMayMatchPinLaw" (some 0) with
  accessFlags := 49
  interfaces := #[]
  cf := some (fileOf pool1 13 #[] #[{ accessFlags := 1, nameIndex := 5, descriptorIndex := 6, attributes := #[] }, { accessFlags := 10, nameIndex := 16, descriptorIndex := 17, attributes := #[] }, { accessFlags := 9, nameIndex := 27, descriptorIndex := 28, attributes := #[] }] 49 2 #[] #[])
  fields := #[]
  methods := #[k1m0, k1m1, k1m2]
  instanceTypes := #[]
  staticTypes := #[]
  resolved := Array.replicate 31 none
  statics := none }

def pool2 : Array CpInfo := pool [(2, .class_ 4), (1, u "java/lang/Object"), (0, u "<init>"), (0, u "()V"), (0, .class_ 8), (0, u "java/lang/Record")] 13

def k2m0 : Method := { name := "<init>", desc := "()V", sig := { parameters := [], returnType := none }, accessFlags := 4, code := none }
/-- java/lang/Record -/
def k2 : Class := { plain "java/lang/Record" (some 0) with
  accessFlags := 1057
  interfaces := #[]
  cf := some (fileOf pool2 7 #[] #[{ accessFlags := 4, nameIndex := 5, descriptorIndex := 6, attributes := #[] }] 1057 2 #[] #[])
  fields := #[]
  methods := #[k2m0]
  instanceTypes := #[]
  staticTypes := #[]
  resolved := Array.replicate 22 none
  statics := none }

def pool3 : Array CpInfo := pool [(2, .class_ 4), (1, u "java/lang/Record"), (3, .class_ 10), (1, u "com/example/demarcation/demarcation/SavepointName"), (0, u "text"), (0, u "Ljava/lang/String;"), (2, u "form"), (0, u "Lcom/example/demarcation/demarcation/SavepointName$Form;"), (1, .class_ 20), (1, u "com/example/demarcation/demarcation/SavepointName$Form"), (4, .methodref 26 27), (0, .class_ 28), (0, .nameAndType 29 30), (0, u "java/lang/String"), (0, u "equals"), (0, u "(Ljava/lang/Object;)Z"), (13, u "mayMatch"), (0, u "(Ljava/lang/String;Ljava/lang/String;)Z"), (2, u "UNREAD"), (42, u "Lcom/example/demarcation/demarcation/SavepointName;"), (0, u "LENGTH_KEPT"), (0, u "I")] 34

def k3c0 : Code := { maxStack := 2, maxLocals := 2, code := prog_37_method_4_code, exceptionTable := #[], attributes := #[] }
def k3m0 : Method := { name := "mayMatch", desc := "(Ljava/lang/String;Ljava/lang/String;)Z", sig := { parameters := [(.object "java/lang/String"), (.object "java/lang/String")], returnType := some .boolean }, accessFlags := 8, code := some k3c0 }
/-- com/example/demarcation/demarcation/SavepointName -/
def k3 : Class := { plain "com/example/demarcation/demarcation/SavepointName" (some 2) with
  accessFlags := 48
  interfaces := #[]
  cf := some (fileOf pool3 8 #[.nestMembers #[18]] #[{ accessFlags := 8, nameIndex := 44, descriptorIndex := 45, attributes := #[] }] 48 2 #[] #[{ accessFlags := 18, nameIndex := 11, descriptorIndex := 12, attributes := #[] }, { accessFlags := 18, nameIndex := 15, descriptorIndex := 16, attributes := #[] }, { accessFlags := 24, nameIndex := 48, descriptorIndex := 91, attributes := #[] }, { accessFlags := 26, nameIndex := 92, descriptorIndex := 93, attributes := #[] }])
  fields := #[{ name := "text", type := (.object "java/lang/String"), accessFlags := 18, slot := 0, constantValue := 0 }, { name := "form", type := (.object "com/example/demarcation/demarcation/SavepointName$Form"), accessFlags := 18, slot := 1, constantValue := 0 }, { name := "UNREAD", type := (.object "com/example/demarcation/demarcation/SavepointName"), accessFlags := 24, slot := 0, constantValue := 0 }, { name := "LENGTH_KEPT", type := .int, accessFlags := 26, slot := 1, constantValue := 0 }]
  methods := #[k3m0]
  instanceTypes := #[(.object "java/lang/String"), (.object "com/example/demarcation/demarcation/SavepointName$Form")]
  staticTypes := #[(.object "com/example/demarcation/demarcation/SavepointName"), .int]
  resolved := Array.replicate 128 none
  statics := none }

def pool4 : Array CpInfo := pool [(1, .class_ 2), (0, u "java/io/Serializable"), (0, .class_ 4), (0, u "java/lang/Object")] 2

/-- java/io/Serializable -/
def k4 : Class := { plain "java/io/Serializable" (some 0) with
  accessFlags := 1537
  interfaces := #[]
  cf := some (fileOf pool4 1 #[] #[] 1537 3 #[] #[])
  fields := #[]
  methods := #[]
  instanceTypes := #[]
  staticTypes := #[]
  resolved := Array.replicate 7 none
  statics := none }

def pool5 : Array CpInfo := pool [(1, .class_ 2), (0, u "java/lang/Comparable"), (0, .class_ 4), (0, u "java/lang/Object")] 7

/-- java/lang/Comparable -/
def k5 : Class := { plain "java/lang/Comparable" (some 0) with
  accessFlags := 1537
  interfaces := #[]
  cf := some (fileOf pool5 1 #[] #[] 1537 3 #[] #[])
  fields := #[]
  methods := #[]
  instanceTypes := #[]
  staticTypes := #[]
  resolved := Array.replicate 12 none
  statics := none }

def pool6 : Array CpInfo := pool [(2, .class_ 4), (1, u "java/lang/CharSequence"), (42, .class_ 48), (0, u "java/lang/CharSequence$1CodePointIterator"), (10, .class_ 60), (0, u "java/lang/CharSequence$1CharIterator"), (5, .class_ 67), (0, u "java/lang/Object")] 63

/-- java/lang/CharSequence -/
def k6 : Class := { plain "java/lang/CharSequence" (some 0) with
  accessFlags := 1537
  interfaces := #[]
  cf := some (fileOf pool6 2 #[.nestMembers #[47, 59]] #[] 1537 66 #[] #[])
  fields := #[]
  methods := #[]
  instanceTypes := #[]
  staticTypes := #[]
  resolved := Array.replicate 131 none
  statics := none }

def pool7 : Array CpInfo := pool [(1, .class_ 2), (0, u "java/lang/constant/Constable"), (0, .class_ 4), (0, u "java/lang/Object")] 6

/-- java/lang/constant/Constable -/
def k7 : Class := { plain "java/lang/constant/Constable" (some 0) with
  accessFlags := 1537
  interfaces := #[]
  cf := some (fileOf pool7 1 #[] #[] 1537 3 #[] #[])
  fields := #[]
  methods := #[]
  instanceTypes := #[]
  staticTypes := #[]
  resolved := Array.replicate 11 none
  statics := none }

def pool8 : Array CpInfo := pool [(1, .class_ 2), (0, u "java/lang/constant/ConstantDesc"), (0, .class_ 4), (0, u "java/lang/Object")] 32

/-- java/lang/constant/ConstantDesc -/
def k8 : Class := { plain "java/lang/constant/ConstantDesc" (some 0) with
  accessFlags := 1537
  interfaces := #[]
  cf := some (fileOf pool8 1 #[] #[] 1537 3 #[] #[])
  fields := #[]
  methods := #[]
  instanceTypes := #[]
  staticTypes := #[]
  resolved := Array.replicate 37 none
  statics := none }

def pool9 : Array CpInfo := pool [(1, .methodref 2 3), (0, .class_ 4), (0, .nameAndType 5 6), (0, u "java/lang/Object"), (0, u "<init>"), (0, u "()V"), (0, .string 8), (0, u ""), (0, .fieldref 10 11), (0, .class_ 12), (0, .nameAndType 13 14), (0, u "java/lang/String"), (0, u "value"), (0, u "[B"), (0, .fieldref 10 16), (0, .nameAndType 17 18), (0, u "coder"), (0, u "B"), (2, u "hash"), (0, u "I"), (2, u "hashIsZero"), (0, u "Z"), (0, .methodref 10 28), (0, .nameAndType 5 29), (0, u "([CIILjava/lang/Void;)V"), (8, .fieldref 10 39), (0, .nameAndType 40 26), (0, u "COMPACT_STRINGS"), (1, .class_ 44), (1, u "java/lang/StringUTF16"), (0, u "compress"), (1, .methodref 42 48), (0, .nameAndType 49 50), (0, u "coderFromArrayLen"), (0, u "([BI)B"), (56, .class_ 109), (1, u "java/lang/StringLatin1"), (67, .methodref 42 178), (0, .nameAndType 45 179), (0, u "([CII)[B"), (361, .methodref 107 542), (0, .nameAndType 543 544), (0, u "equals"), (0, u "([B[B)Z"), (28, u "(Ljava/lang/Object;)Z"), (1, .class_ 576), (0, u "java/lang/CharSequence"), (22, u "CASE_INSENSITIVE_ORDER"), (0, u "Ljava/util/Comparator;"), (409, u "([C)V"), (90, u "serialPersistentFields"), (0, u "[Ljava/io/ObjectStreamField;"), (0, .class_ 1104), (0, u "java/lang/String$CaseInsensitiveComparator"), (1, .class_ 1107), (0, u "java/io/Serializable"), (0, .class_ 1109), (0, u "java/lang/Comparable"), (0, .class_ 1111), (0, u "java/lang/constant/Constable"), (0, .class_ 1113), (0, u "java/lang/constant/ConstantDesc"), (2, u "serialVersionUID"), (0, u "J"), (3, u "REPL"), (0, u "C"), (2, u "LATIN1"), (1, u "UTF16")] 323

def k9m0 : Method := { name := "<init>", desc := "()V", sig := { parameters := [], returnType := none }, accessFlags := 1, code := none }
def k9c1 : Code := { maxStack := 5, maxLocals := 2, code := jdk_42_method_3_code, exceptionTable := #[], attributes := #[] }
def k9m1 : Method := { name := "<init>", desc := "([C)V", sig := { parameters := [(.array .char)], returnType := none }, accessFlags := 1, code := some k9c1 }
def k9c2 : Code := { maxStack := 2, maxLocals := 3, code := jdk_42_method_66_code, exceptionTable := #[], attributes := #[] }
def k9m2 : Method := { name := "equals", desc := "(Ljava/lang/Object;)Z", sig := { parameters := [(.object "java/lang/Object")], returnType := some .boolean }, accessFlags := 1, code := some k9c2 }
def k9c3 : Code := { maxStack := 4, maxLocals := 6, code := jdk_42_method_149_code, exceptionTable := #[], attributes := #[] }
def k9m3 : Method := { name := "<init>", desc := "([CIILjava/lang/Void;)V", sig := { parameters := [(.array .char), .int, .int, (.object "java/lang/Void")], returnType := none }, accessFlags := 2, code := some k9c3 }
/-- java/lang/String -/
def k9 : Class := { plain "java/lang/String" (some 0) with
  accessFlags := 49
  interfaces := #[4, 5, 6, 7, 8]
  cf := some (fileOf pool9 10 #[.nestMembers #[1103]] #[{ accessFlags := 1, nameIndex := 5, descriptorIndex := 6, attributes := #[] }, { accessFlags := 1, nameIndex := 5, descriptorIndex := 1010, attributes := #[] }, { accessFlags := 1, nameIndex := 543, descriptorIndex := 573, attributes := #[] }, { accessFlags := 2, nameIndex := 5, descriptorIndex := 29, attributes := #[] }] 49 2 #[1106, 1108, 575, 1110, 1112] #[{ accessFlags := 18, nameIndex := 13, descriptorIndex := 14, attributes := #[] }, { accessFlags := 18, nameIndex := 17, descriptorIndex := 18, attributes := #[] }, { accessFlags := 2, nameIndex := 21, descriptorIndex := 22, attributes := #[] }, { accessFlags := 2, nameIndex := 25, descriptorIndex := 26, attributes := #[] }, { accessFlags := 26, nameIndex := 1116, descriptorIndex := 1117, attributes := #[] }, { accessFlags := 24, nameIndex := 40, descriptorIndex := 26, attributes := #[] }, { accessFlags := 26, nameIndex := 1101, descriptorIndex := 1102, attributes := #[] }, { accessFlags := 26, nameIndex := 1121, descriptorIndex := 1122, attributes := #[] }, { accessFlags := 25, nameIndex := 599, descriptorIndex := 600, attributes := #[] }, { accessFlags := 24, nameIndex := 1125, descriptorIndex := 18, attributes := #[] }, { accessFlags := 24, nameIndex := 1127, descriptorIndex := 18, attributes := #[] }])
  fields := #[{ name := "value", type := (.array .byte), accessFlags := 18, slot := 0, constantValue := 0 }, { name := "coder", type := .byte, accessFlags := 18, slot := 1, constantValue := 0 }, { name := "hash", type := .int, accessFlags := 2, slot := 2, constantValue := 0 }, { name := "hashIsZero", type := .boolean, accessFlags := 2, slot := 3, constantValue := 0 }, { name := "serialVersionUID", type := .long, accessFlags := 26, slot := 0, constantValue := 0 }, { name := "COMPACT_STRINGS", type := .boolean, accessFlags := 24, slot := 1, constantValue := 0 }, { name := "serialPersistentFields", type := (.array (.object "java/io/ObjectStreamField")), accessFlags := 26, slot := 2, constantValue := 0 }, { name := "REPL", type := .char, accessFlags := 26, slot := 3, constantValue := 0 }, { name := "CASE_INSENSITIVE_ORDER", type := (.object "java/util/Comparator"), accessFlags := 25, slot := 4, constantValue := 0 }, { name := "LATIN1", type := .byte, accessFlags := 24, slot := 5, constantValue := 0 }, { name := "UTF16", type := .byte, accessFlags := 24, slot := 6, constantValue := 0 }]
  methods := #[k9m0, k9m1, k9m2, k9m3]
  instanceTypes := #[(.array .byte), .byte, .int, .boolean]
  staticTypes := #[.long, .boolean, (.array (.object "java/io/ObjectStreamField")), .char, (.object "java/util/Comparator"), .byte, .byte]
  resolved := Array.replicate 1451 none
  statics := some 0 }

def pool10 : Array CpInfo := pool [(4, .class_ 6), (1, u "java/lang/Object"), (0, u "<init>"), (0, u "()V"), (5, .class_ 16), (1, u "java/lang/StringLatin1"), (104, u "$assertionsDisabled"), (0, u "Z"), (98, .class_ 223), (1, u "java/lang/StringLatin1$LinesSpliterator"), (57, u "equals"), (0, u "([B[B)Z"), (107, .class_ 391), (0, u "java/lang/StringLatin1$CharsSpliterator")] 3

def k10m0 : Method := { name := "<init>", desc := "()V", sig := { parameters := [], returnType := none }, accessFlags := 0, code := none }
def k10c1 : Code := { maxStack := 3, maxLocals := 3, code := jdk_43_method_13_code, exceptionTable := #[], attributes := #[] }
def k10m1 : Method := { name := "equals", desc := "([B[B)Z", sig := { parameters := [(.array .byte), (.array .byte)], returnType := some .boolean }, accessFlags := 9, code := some k10c1 }
/-- java/lang/StringLatin1 -/
def k10 : Class := { plain "java/lang/StringLatin1" (some 0) with
  accessFlags := 48
  interfaces := #[]
  cf := some (fileOf pool10 14 #[.nestMembers #[390, 221]] #[{ accessFlags := 0, nameIndex := 7, descriptorIndex := 8, attributes := #[] }, { accessFlags := 9, nameIndex := 281, descriptorIndex := 282, attributes := #[] }] 48 4 #[] #[{ accessFlags := 4120, nameIndex := 121, descriptorIndex := 122, attributes := #[] }])
  fields := #[{ name := "$assertionsDisabled", type := .boolean, accessFlags := 4120, slot := 0, constantValue := 0 }]
  methods := #[k10m0, k10m1]
  instanceTypes := #[]
  staticTypes := #[.boolean]
  resolved := Array.replicate 395 none
  statics := none }

def pool11 : Array CpInfo := pool [(6, .class_ 8), (1, u "java/lang/Object"), (0, u "<init>"), (0, u "()V"), (1, .class_ 14), (1, u "java/lang/StringUTF16"), (31, u "$assertionsDisabled"), (0, u "Z"), (13, u "HI_BYTE_SHIFT"), (0, u "I"), (2, u "LO_BYTE_SHIFT"), (49, .methodref 12 116), (0, .nameAndType 117 118), (0, u "compress"), (0, u "([CI[BII)I"), (3, u "([CII)[B"), (138, u "coderFromArrayLen"), (0, u "([BI)B"), (106, .class_ 371), (1, u "java/lang/StringUTF16$LinesSpliterator"), (58, u "MAX_LENGTH"), (196, .class_ 628), (0, u "java/lang/StringUTF16$CodePointsSpliterator"), (0, .class_ 630), (0, u "java/lang/StringUTF16$CharsSpliterator")] 4

def k11m0 : Method := { name := "<init>", desc := "()V", sig := { parameters := [], returnType := none }, accessFlags := 0, code := none }
def k11c1 : Code := { maxStack := 2, maxLocals := 2, code := jdk_52_method_15_code, exceptionTable := #[], attributes := #[] }
def k11m1 : Method := { name := "coderFromArrayLen", desc := "([BI)B", sig := { parameters := [(.array .byte), .int], returnType := some .byte }, accessFlags := 8, code := some k11c1 }
def k11c2 : Code := { maxStack := 5, maxLocals := 6, code := jdk_52_method_16_code, exceptionTable := #[], attributes := #[] }
def k11m2 : Method := { name := "compress", desc := "([CII)[B", sig := { parameters := [(.array .char), .int, .int], returnType := some (.array .byte) }, accessFlags := 9, code := some k11c2 }
def k11c3 : Code := { maxStack := 3, maxLocals := 7, code := jdk_52_method_21_code, exceptionTable := #[], attributes := #[] }
def k11m3 : Method := { name := "compress", desc := "([CI[BII)I", sig := { parameters := [(.array .char), .int, (.array .byte), .int, .int], returnType := some .int }, accessFlags := 9, code := some k11c3 }
/-- java/lang/StringUTF16 -/
def k11 : Class := { plain "java/lang/StringUTF16" (some 0) with
  accessFlags := 48
  interfaces := #[]
  cf := some (fileOf pool11 12 #[.nestMembers #[627, 629, 369]] #[{ accessFlags := 0, nameIndex := 9, descriptorIndex := 10, attributes := #[] }, { accessFlags := 8, nameIndex := 261, descriptorIndex := 262, attributes := #[] }, { accessFlags := 9, nameIndex := 117, descriptorIndex := 122, attributes := #[] }, { accessFlags := 9, nameIndex := 117, descriptorIndex := 118, attributes := #[] }] 48 6 #[] #[{ accessFlags := 26, nameIndex := 61, descriptorIndex := 62, attributes := #[] }, { accessFlags := 26, nameIndex := 65, descriptorIndex := 62, attributes := #[] }, { accessFlags := 24, nameIndex := 430, descriptorIndex := 62, attributes := #[] }, { accessFlags := 4120, nameIndex := 46, descriptorIndex := 47, attributes := #[] }])
  fields := #[{ name := "HI_BYTE_SHIFT", type := .int, accessFlags := 26, slot := 0, constantValue := 0 }, { name := "LO_BYTE_SHIFT", type := .int, accessFlags := 26, slot := 1, constantValue := 0 }, { name := "MAX_LENGTH", type := .int, accessFlags := 24, slot := 2, constantValue := 0 }, { name := "$assertionsDisabled", type := .boolean, accessFlags := 4120, slot := 3, constantValue := 0 }]
  methods := #[k11m0, k11m1, k11m2, k11m3]
  instanceTypes := #[]
  staticTypes := #[.int, .int, .int, .boolean]
  resolved := Array.replicate 635 none
  statics := none }

def pool12 : Array CpInfo := pool [(2, .class_ 4), (1, u "java/lang/Object"), (0, u "<init>"), (0, u "()V"), (17, .class_ 26), (1, u "jdk/internal/util/Preconditions"), (28, .class_ 56), (0, u "jdk/internal/util/Preconditions$4"), (57, .class_ 115), (0, u "jdk/internal/util/Preconditions$1"), (7, u "SIOOBE_FORMATTER"), (0, u "Ljava/util/function/BiFunction;"), (0, .class_ 126), (0, u "jdk/internal/util/Preconditions$2"), (3, u "AIOOBE_FORMATTER"), (0, .class_ 132), (0, u "jdk/internal/util/Preconditions$3"), (3, u "IOOBE_FORMATTER")] 57

def k12m0 : Method := { name := "<init>", desc := "()V", sig := { parameters := [], returnType := none }, accessFlags := 1, code := none }
/-- jdk/internal/util/Preconditions -/
def k12 : Class := { plain "jdk/internal/util/Preconditions" (some 0) with
  accessFlags := 33
  interfaces := #[]
  cf := some (fileOf pool12 24 #[.nestMembers #[55, 131, 125, 114]] #[{ accessFlags := 1, nameIndex := 5, descriptorIndex := 6, attributes := #[] }] 33 2 #[] #[{ accessFlags := 25, nameIndex := 123, descriptorIndex := 124, attributes := #[] }, { accessFlags := 25, nameIndex := 130, descriptorIndex := 124, attributes := #[] }, { accessFlags := 25, nameIndex := 136, descriptorIndex := 124, attributes := #[] }])
  fields := #[{ name := "SIOOBE_FORMATTER", type := (.object "java/util/function/BiFunction"), accessFlags := 25, slot := 0, constantValue := 0 }, { name := "AIOOBE_FORMATTER", type := (.object "java/util/function/BiFunction"), accessFlags := 25, slot := 1, constantValue := 0 }, { name := "IOOBE_FORMATTER", type := (.object "java/util/function/BiFunction"), accessFlags := 25, slot := 2, constantValue := 0 }]
  methods := #[k12m0]
  instanceTypes := #[]
  staticTypes := #[(.object "java/util/function/BiFunction"), (.object "java/util/function/BiFunction"), (.object "java/util/function/BiFunction")]
  resolved := Array.replicate 194 none
  statics := some 1 }

def pool13 : Array CpInfo := pool [(9, u "<init>"), (6, .class_ 18), (1, u "java/lang/Object"), (0, u "()V"), (1, .class_ 23), (1, u "jdk/internal/util/ArraysSupport"), (0, u "LOG2_ARRAY_LONG_INDEX_SCALE"), (0, u "I"), (2, u "U"), (0, u "Ljdk/internal/misc/Unsafe;"), (8, u "BIG_ENDIAN"), (0, u "Z"), (8, u "LOG2_BYTE_BIT_SIZE"), (4, u "LOG2_ARRAY_INT_INDEX_SCALE"), (54, u "JLA"), (0, u "Ljdk/internal/access/JavaLangAccess;"), (11, u "LOG2_ARRAY_BOOLEAN_INDEX_SCALE"), (9, u "LOG2_ARRAY_BYTE_INDEX_SCALE"), (5, u "LOG2_ARRAY_CHAR_INDEX_SCALE"), (5, u "LOG2_ARRAY_SHORT_INDEX_SCALE"), (18, u "LOG2_ARRAY_FLOAT_INDEX_SCALE"), (24, u "LOG2_ARRAY_DOUBLE_INDEX_SCALE"), (89, u "T_BOOLEAN"), (2, u "T_CHAR"), (1, u "T_FLOAT"), (1, u "T_DOUBLE"), (1, u "T_BYTE"), (1, u "T_SHORT"), (1, u "T_INT"), (1, u "T_LONG"), (1, u "SOFT_MAX_ARRAY_LENGTH")] 83

def k13m0 : Method := { name := "<init>", desc := "()V", sig := { parameters := [], returnType := none }, accessFlags := 2, code := none }
/-- jdk/internal/util/ArraysSupport -/
def k13 : Class := { plain "jdk/internal/util/ArraysSupport" (some 0) with
  accessFlags := 33
  interfaces := #[]
  cf := some (fileOf pool13 21 #[] #[{ accessFlags := 2, nameIndex := 9, descriptorIndex := 19, attributes := #[] }] 33 16 #[] #[{ accessFlags := 24, nameIndex := 28, descriptorIndex := 29, attributes := #[] }, { accessFlags := 26, nameIndex := 38, descriptorIndex := 39, attributes := #[] }, { accessFlags := 25, nameIndex := 121, descriptorIndex := 25, attributes := #[] }, { accessFlags := 25, nameIndex := 131, descriptorIndex := 25, attributes := #[] }, { accessFlags := 25, nameIndex := 137, descriptorIndex := 25, attributes := #[] }, { accessFlags := 25, nameIndex := 143, descriptorIndex := 25, attributes := #[] }, { accessFlags := 25, nameIndex := 53, descriptorIndex := 25, attributes := #[] }, { accessFlags := 25, nameIndex := 24, descriptorIndex := 25, attributes := #[] }, { accessFlags := 25, nameIndex := 162, descriptorIndex := 25, attributes := #[] }, { accessFlags := 25, nameIndex := 187, descriptorIndex := 25, attributes := #[] }, { accessFlags := 26, nameIndex := 48, descriptorIndex := 25, attributes := #[] }, { accessFlags := 25, nameIndex := 277, descriptorIndex := 25, attributes := #[] }, { accessFlags := 25, nameIndex := 280, descriptorIndex := 25, attributes := #[] }, { accessFlags := 25, nameIndex := 282, descriptorIndex := 25, attributes := #[] }, { accessFlags := 25, nameIndex := 284, descriptorIndex := 25, attributes := #[] }, { accessFlags := 25, nameIndex := 286, descriptorIndex := 25, attributes := #[] }, { accessFlags := 25, nameIndex := 288, descriptorIndex := 25, attributes := #[] }, { accessFlags := 25, nameIndex := 290, descriptorIndex := 25, attributes := #[] }, { accessFlags := 25, nameIndex := 292, descriptorIndex := 25, attributes := #[] }, { accessFlags := 26, nameIndex := 108, descriptorIndex := 109, attributes := #[] }, { accessFlags := 25, nameIndex := 294, descriptorIndex := 25, attributes := #[] }])
  fields := #[{ name := "U", type := (.object "jdk/internal/misc/Unsafe"), accessFlags := 24, slot := 0, constantValue := 0 }, { name := "BIG_ENDIAN", type := .boolean, accessFlags := 26, slot := 1, constantValue := 0 }, { name := "LOG2_ARRAY_BOOLEAN_INDEX_SCALE", type := .int, accessFlags := 25, slot := 2, constantValue := 0 }, { name := "LOG2_ARRAY_BYTE_INDEX_SCALE", type := .int, accessFlags := 25, slot := 3, constantValue := 0 }, { name := "LOG2_ARRAY_CHAR_INDEX_SCALE", type := .int, accessFlags := 25, slot := 4, constantValue := 0 }, { name := "LOG2_ARRAY_SHORT_INDEX_SCALE", type := .int, accessFlags := 25, slot := 5, constantValue := 0 }, { name := "LOG2_ARRAY_INT_INDEX_SCALE", type := .int, accessFlags := 25, slot := 6, constantValue := 0 }, { name := "LOG2_ARRAY_LONG_INDEX_SCALE", type := .int, accessFlags := 25, slot := 7, constantValue := 0 }, { name := "LOG2_ARRAY_FLOAT_INDEX_SCALE", type := .int, accessFlags := 25, slot := 8, constantValue := 0 }, { name := "LOG2_ARRAY_DOUBLE_INDEX_SCALE", type := .int, accessFlags := 25, slot := 9, constantValue := 0 }, { name := "LOG2_BYTE_BIT_SIZE", type := .int, accessFlags := 26, slot := 10, constantValue := 0 }, { name := "T_BOOLEAN", type := .int, accessFlags := 25, slot := 11, constantValue := 0 }, { name := "T_CHAR", type := .int, accessFlags := 25, slot := 12, constantValue := 0 }, { name := "T_FLOAT", type := .int, accessFlags := 25, slot := 13, constantValue := 0 }, { name := "T_DOUBLE", type := .int, accessFlags := 25, slot := 14, constantValue := 0 }, { name := "T_BYTE", type := .int, accessFlags := 25, slot := 15, constantValue := 0 }, { name := "T_SHORT", type := .int, accessFlags := 25, slot := 16, constantValue := 0 }, { name := "T_INT", type := .int, accessFlags := 25, slot := 17, constantValue := 0 }, { name := "T_LONG", type := .int, accessFlags := 25, slot := 18, constantValue := 0 }, { name := "JLA", type := (.object "jdk/internal/access/JavaLangAccess"), accessFlags := 26, slot := 19, constantValue := 0 }, { name := "SOFT_MAX_ARRAY_LENGTH", type := .int, accessFlags := 25, slot := 20, constantValue := 0 }]
  methods := #[k13m0]
  instanceTypes := #[]
  staticTypes := #[(.object "jdk/internal/misc/Unsafe"), .boolean, .int, .int, .int, .int, .int, .int, .int, .int, .int, .int, .int, .int, .int, .int, .int, .int, .int, (.object "jdk/internal/access/JavaLangAccess"), .int]
  resolved := Array.replicate 378 none
  statics := none }

def pool14 : Array CpInfo := pool [(1, u "java/lang/Cloneable"), (0, .class_ 1), (0, u "java/lang/Object"), (0, .class_ 3)] 3

/-- java/lang/Cloneable -/
def k14 : Class := { plain "java/lang/Cloneable" (some 0) with
  accessFlags := 1537
  interfaces := #[]
  cf := some (fileOf pool14 2 #[] #[] 1537 4 #[] #[])
  fields := #[]
  methods := #[]
  instanceTypes := #[]
  staticTypes := #[]
  resolved := Array.replicate 8 none
  statics := none }

/-- the primitive byte -/
def k15 : Class := { plain "byte" none with kind := .primitive 'B', accessFlags := 0x411 }
/-- [B -/
def k16 : Class := { plain "[B" (some 0) with kind := .array 15 .byte, interfaces := #[14, 4], accessFlags := 1041 }

/-- the primitive char -/
def k17 : Class := { plain "char" none with kind := .primitive 'C', accessFlags := 0x411 }
/-- [C -/
def k18 : Class := { plain "[C" (some 0) with kind := .array 17 .char, interfaces := #[14, 4], accessFlags := 1041 }

/-- the primitive int -/
def k19 : Class := { plain "int" none with kind := .primitive 'I', accessFlags := 0x411 }
/-- [I -/
def k20 : Class := { plain "[I" (some 0) with kind := .array 19 .int, interfaces := #[14, 4], accessFlags := 1041 }

def heap : Heap := #[{ cls := 9, slots := #[.long 0, .int 1, .null, .int 0, .null, .int 0, .int 0], vm := .statics 9 },
  { cls := 12, slots := #[.null, .null, .null], vm := .statics 12 }]
def classes : Array Class := #[k0, k1, k2, k3, k4, k5, k6, k7, k8, k9, k10, k11, k12, k13, k14, k15, k16, k17, k18, k19, k20]
def interned : List (Array UInt16 × Addr) := []
def slotsUsed : Nat := 10
def theMethod : MethodId := ⟨1, 2⟩
def args0 : Array Value := #[.int 5, .int 6, .int 7, .int 8]
def aboutOver (below : List Frame) : State where
  vm := { classes := classes, interned := interned.toArray }
  heap := heap
  slotsUsed := slotsUsed
  threads := #[{ frames := .invoking theMethod args0 :: below }]
def below0 : List Frame := [.native { method := ⟨0, 0⟩, args := #[] }]
def about1 : State := aboutOver below0
def p0 : Program := .bare "" "" ""
def e0 : Env := launch0.env 0 0 0
theorem w_frames : about1.frames = Frame.invoking theMethod args0 :: below0 := rfl
set_option maxRecDepth 65536 in
theorem w_args : argsFit about1.vm theMethod args0 = true := by decide +kernel
set_option maxRecDepth 65536 in
theorem w_heap : heapFits about1 = true := by decide +kernel
set_option maxRecDepth 65536 in
theorem w_runnable : about1.curStatus? = some .runnable := by decide +kernel
set_option maxRecDepth 65536 in
theorem w_alone : about1.alone = true := by decide +kernel
set_option maxRecDepth 65536 in
theorem w_named : about1.methodNamed? x = some theMethod := by decide +kernel
set_option maxRecDepth 65536 in
theorem w_hears : about1.hears theMethod below0 = true := by decide +kernel
set_option maxRecDepth 65536 in
theorem w_ripe : about1.ripe theMethod args0 below0 = true := by decide +kernel
theorem w_running : about1.status = .running := rfl
set_option maxRecDepth 65536 in
theorem w_room : about1.hasRoom e0.platform room_1 = true :=
  launch0.hasRoom_least _ room_1 (by decide +kernel) (by decide +kernel) (by decide +kernel) (by decide +kernel) (by decide +kernel) (by decide +kernel)
theorem allAtoms_all (ts : List Jvm.Cond) (a : Array Jvm.Value) (st : Jvm.State) : (allAtoms ts).before a st = ts.all (fun c => c.before a st) := by
  induction ts with
  | nil => rfl
  | cons c t ih =>
    show (Jvm.Cond.and c (allAtoms t)).before a st = _
    rw [Jvm.Cond.before_and, ih, List.all_cons]
def words1 : List Jvm.Cond := Jvm.Cond.code x code maxLocals ret :: tables_1
/-- a 'code' word, met by the world's own term for the bytes: nothing is compared byte by byte -/
theorem code_word {y : MethodName} {bytes : ByteArray} {mx : Nat} {rt : Option FieldType} {a : Array Value} {s : State} {m : MethodId} {meth : Method} {c : Code} (h1 : s.methodNamed? y = some m) (h2 : s.vm.method? m = some meth) (h3 : meth.code = some c) (h4 : c.code = bytes)
    (h5 : (c.maxLocals == mx && c.exceptionTable.isEmpty && decide (c.maxStack ≤ mostOperands) && decide (meth.sig.returnType = rt) && !meth.locks && decide (parseMethodDescriptor y.desc = some meth.sig)) = true) : (Jvm.Cond.code y bytes mx rt).before a s = true := by
  simp only [Bool.and_eq_true, beq_iff_eq, Bool.not_eq_true', decide_eq_true_eq] at h5
  obtain ⟨⟨⟨⟨⟨g1, g2⟩, g3⟩, g4⟩, g5⟩, g6⟩ := h5
  simp [Cond.before, Cond.holds, Cond.value, h1, h2, h3, h4, g1, g2, g3, g4, g5, g6]
def isCode : Jvm.Cond → Bool
  | .code _ _ _ _ => true
  | _ => false
theorem all_split {L : List Jvm.Cond} {P : Jvm.Cond → Bool} (h1 : L.all (fun c => isCode c || P c) = true) (h2 : ∀ c ∈ L.filter isCode, P c = true) : L.all P = true := by
  refine List.all_eq_true.mpr fun c hc => ?_
  have h := List.all_eq_true.mp h1 c hc
  rcases Bool.eq_false_or_eq_true (isCode c) with hi | hi
  · exact h2 c (List.mem_filter.mpr ⟨hc, hi⟩)
  · simpa [hi] using h
set_option maxRecDepth 65536 in
theorem w_c0 : (Jvm.Cond.code x code maxLocals ret).before args0 about1 = true := code_word (m := ⟨1, 2⟩) (meth := k1m2) (c := k1c2) (by decide +kernel) rfl rfl rfl (by decide +kernel)
set_option maxRecDepth 65536 in
theorem w_c1 : (Jvm.Cond.code ({ cls := "com/example/demarcation/demarcation/SavepointName", name := "mayMatch", desc := "(Ljava/lang/String;Ljava/lang/String;)Z" } : Jvm.MethodName) prog_37_method_4_code (2 : Nat) (Option.some Jvm.ClassFile.FieldType.boolean)).before args0 about1 = true := code_word (m := ⟨3, 0⟩) (meth := k3m0) (c := k3c0) (by decide +kernel) rfl rfl rfl (by decide +kernel)
set_option maxRecDepth 65536 in
theorem w_c2 : (Jvm.Cond.code ({ cls := "com/example/demarcation/demarcation/SavepointNameMayMatchPinLaw", name := "mk", desc := "(ICC)Ljava/lang/String;" } : Jvm.MethodName) method_2_code (3 : Nat) (Option.some (Jvm.ClassFile.FieldType.object "java/lang/String"))).before args0 about1 = true := code_word (m := ⟨1, 1⟩) (meth := k1m1) (c := k1c1) (by decide +kernel) rfl rfl rfl (by decide +kernel)
set_option maxRecDepth 65536 in
theorem w_c3 : (Jvm.Cond.code ({ cls := "java/lang/String", name := "<init>", desc := "([C)V" } : Jvm.MethodName) jdk_42_method_3_code (2 : Nat) (Option.none : Option Jvm.ClassFile.FieldType)).before args0 about1 = true := code_word (m := ⟨9, 1⟩) (meth := k9m1) (c := k9c1) (by decide +kernel) rfl rfl rfl (by decide +kernel)
set_option maxRecDepth 65536 in
theorem w_c4 : (Jvm.Cond.code ({ cls := "java/lang/String", name := "<init>", desc := "([CIILjava/lang/Void;)V" } : Jvm.MethodName) jdk_42_method_149_code (6 : Nat) (Option.none : Option Jvm.ClassFile.FieldType)).before args0 about1 = true := code_word (m := ⟨9, 3⟩) (meth := k9m3) (c := k9c3) (by decide +kernel) rfl rfl rfl (by decide +kernel)
set_option maxRecDepth 65536 in
theorem w_c5 : (Jvm.Cond.code ({ cls := "java/lang/Object", name := "<init>", desc := "()V" } : Jvm.MethodName) object_method_1_code (1 : Nat) (Option.none : Option Jvm.ClassFile.FieldType)).before args0 about1 = true := code_word (m := ⟨0, 0⟩) (meth := k0m0) (c := k0c0) (by decide +kernel) rfl rfl rfl (by decide +kernel)
set_option maxRecDepth 65536 in
theorem w_c6 : (Jvm.Cond.code ({ cls := "java/lang/String", name := "equals", desc := "(Ljava/lang/Object;)Z" } : Jvm.MethodName) jdk_42_method_66_code (3 : Nat) (Option.some Jvm.ClassFile.FieldType.boolean)).before args0 about1 = true := code_word (m := ⟨9, 2⟩) (meth := k9m2) (c := k9c2) (by decide +kernel) rfl rfl rfl (by decide +kernel)
set_option maxRecDepth 65536 in
theorem w_c7 : (Jvm.Cond.code ({ cls := "java/lang/StringLatin1", name := "equals", desc := "([B[B)Z" } : Jvm.MethodName) jdk_43_method_13_code (3 : Nat) (Option.some Jvm.ClassFile.FieldType.boolean)).before args0 about1 = true := code_word (m := ⟨10, 1⟩) (meth := k10m1) (c := k10c1) (by decide +kernel) rfl rfl rfl (by decide +kernel)
set_option maxRecDepth 65536 in
theorem w_c8 : (Jvm.Cond.code ({ cls := "java/lang/StringUTF16", name := "compress", desc := "([CII)[B" } : Jvm.MethodName) jdk_52_method_16_code (6 : Nat) (Option.some (Jvm.ClassFile.FieldType.array Jvm.ClassFile.FieldType.byte))).before args0 about1 = true := code_word (m := ⟨11, 2⟩) (meth := k11m2) (c := k11c2) (by decide +kernel) rfl rfl rfl (by decide +kernel)
set_option maxRecDepth 65536 in
theorem w_c9 : (Jvm.Cond.code ({ cls := "java/lang/StringUTF16", name := "compress", desc := "([CI[BII)I" } : Jvm.MethodName) jdk_52_method_21_code (7 : Nat) (Option.some Jvm.ClassFile.FieldType.int)).before args0 about1 = true := code_word (m := ⟨11, 3⟩) (meth := k11m3) (c := k11c3) (by decide +kernel) rfl rfl rfl (by decide +kernel)
set_option maxRecDepth 65536 in
theorem w_c10 : (Jvm.Cond.code ({ cls := "java/lang/StringUTF16", name := "coderFromArrayLen", desc := "([BI)B" } : Jvm.MethodName) jdk_52_method_15_code (2 : Nat) (Option.some Jvm.ClassFile.FieldType.byte)).before args0 about1 = true := code_word (m := ⟨11, 1⟩) (meth := k11m1) (c := k11c1) (by decide +kernel) rfl rfl rfl (by decide +kernel)
def codes1 : List Jvm.Cond := [Jvm.Cond.code x code maxLocals ret, Jvm.Cond.code ({ cls := "com/example/demarcation/demarcation/SavepointName", name := "mayMatch", desc := "(Ljava/lang/String;Ljava/lang/String;)Z" } : Jvm.MethodName) prog_37_method_4_code (2 : Nat) (Option.some Jvm.ClassFile.FieldType.boolean), Jvm.Cond.code ({ cls := "com/example/demarcation/demarcation/SavepointNameMayMatchPinLaw", name := "mk", desc := "(ICC)Ljava/lang/String;" } : Jvm.MethodName) method_2_code (3 : Nat) (Option.some (Jvm.ClassFile.FieldType.object "java/lang/String")), Jvm.Cond.code ({ cls := "java/lang/String", name := "<init>", desc := "([C)V" } : Jvm.MethodName) jdk_42_method_3_code (2 : Nat) (Option.none : Option Jvm.ClassFile.FieldType), Jvm.Cond.code ({ cls := "java/lang/String", name := "<init>", desc := "([CIILjava/lang/Void;)V" } : Jvm.MethodName) jdk_42_method_149_code (6 : Nat) (Option.none : Option Jvm.ClassFile.FieldType), Jvm.Cond.code ({ cls := "java/lang/Object", name := "<init>", desc := "()V" } : Jvm.MethodName) object_method_1_code (1 : Nat) (Option.none : Option Jvm.ClassFile.FieldType), Jvm.Cond.code ({ cls := "java/lang/String", name := "equals", desc := "(Ljava/lang/Object;)Z" } : Jvm.MethodName) jdk_42_method_66_code (3 : Nat) (Option.some Jvm.ClassFile.FieldType.boolean), Jvm.Cond.code ({ cls := "java/lang/StringLatin1", name := "equals", desc := "([B[B)Z" } : Jvm.MethodName) jdk_43_method_13_code (3 : Nat) (Option.some Jvm.ClassFile.FieldType.boolean), Jvm.Cond.code ({ cls := "java/lang/StringUTF16", name := "compress", desc := "([CII)[B" } : Jvm.MethodName) jdk_52_method_16_code (6 : Nat) (Option.some (Jvm.ClassFile.FieldType.array Jvm.ClassFile.FieldType.byte)), Jvm.Cond.code ({ cls := "java/lang/StringUTF16", name := "compress", desc := "([CI[BII)I" } : Jvm.MethodName) jdk_52_method_21_code (7 : Nat) (Option.some Jvm.ClassFile.FieldType.int), Jvm.Cond.code ({ cls := "java/lang/StringUTF16", name := "coderFromArrayLen", desc := "([BI)B" } : Jvm.MethodName) jdk_52_method_15_code (2 : Nat) (Option.some Jvm.ClassFile.FieldType.byte)]
set_option maxRecDepth 65536 in
theorem codes_eq : words1.filter isCode = codes1 := rfl
theorem w_codes : ∀ c ∈ words1.filter isCode, c.before args0 about1 = true := by
  rw [codes_eq]
  intro c hc
  simp only [codes1, List.mem_cons, List.not_mem_nil, or_false] at hc
  rcases hc with rfl | rfl | rfl | rfl | rfl | rfl | rfl | rfl | rfl | rfl | rfl
  · exact w_c0
  · exact w_c1
  · exact w_c2
  · exact w_c3
  · exact w_c4
  · exact w_c5
  · exact w_c6
  · exact w_c7
  · exact w_c8
  · exact w_c9
  · exact w_c10
set_option maxRecDepth 65536 in
theorem w_t1 : (words1.take 24).all (fun c => isCode c || c.before args0 about1) = true := by decide +kernel
set_option maxRecDepth 65536 in
theorem w_t2 : ((words1.drop 24).take 24).all (fun c => isCode c || c.before args0 about1) = true := by decide +kernel
set_option maxRecDepth 65536 in
theorem w_t3 : ((words1.drop 24).drop 24).all (fun c => isCode c || c.before args0 about1) = true := by decide +kernel
theorem w_tables : (allAtoms (Jvm.Cond.code x code maxLocals ret :: tables_1)).before args0 about1 = true := by
  rw [allAtoms_all]
  show words1.all (fun c => c.before args0 about1) = true
  refine all_split ?_ w_codes
  rw [← List.take_append_drop 24 words1, List.all_append, w_t1, ← List.take_append_drop 24 (words1.drop 24), List.all_append, w_t2, w_t3]
  rfl
set_option maxRecDepth 65536 in
theorem w_rest : rest_1_c.before args0 about1 = true := by decide +kernel
set_option maxRecDepth 65536 in
theorem w_case : (Jvm.Cond.and given_1 narrow_1).before args0 about1 = true := by decide +kernel
set_option maxRecDepth 65536 in
theorem w_consts : constsHeld consts_1 about1 := Jvm.Lit.constsHeldB_iff.mp (by decide +kernel)
theorem w_applies : (headSpec (Jvm.Cond.code x code maxLocals ret :: tables_1) room_1).applies x e0.platform about1 = true :=
  (Spec.applies_iff w_frames).mpr ⟨w_running, w_runnable, w_alone, w_named, w_hears, w_ripe, w_room, w_tables⟩
theorem atStart : AtStart classFile x code maxLocals ret World_1 tables_1 room_1 Calls_1 rest_1 Pre_1 launch0 p0 e0 about1 theMethod args0 below0 :=
  ⟨lists_1, trivial, launch0.admits_env _ _ _, launch0.least_env, fairChoices_fair.cas, fairChoices_fair.clock, w_frames, w_args, w_heap, w_applies, ⟨w_consts, trivial⟩, w_rest, w_case⟩
end start1
theorem witness_1 : WitnessClaimed_1 := ⟨start1.p0, start1.e0, start1.about1, start1.theMethod, start1.args0, start1.below0, start1.atStart⟩
end Jvm.Pilot.@@N@@
