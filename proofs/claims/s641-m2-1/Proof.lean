import JvmDerived
import JvmDerived.Pilot.@@N@@Statement
import JvmDerived.Pilot.@@N@@Code
set_option linter.unusedVariables false
set_option linter.unusedSimpArgs false
namespace Jvm.RoadKit
open Sem ClassFile Op Lib Jvm.Stand Jvm.Free Jvm.LawKit
section New
variable {p : Program} {l : Launch} {e : Env} {R : Room} {s : State} {m : MethodId} {args : Array Value} {below : List Frame} {meth : Method} {c : Code} {T : State} {locs : List Loc} {cells slots : Nat}
theorem retI (X : Stand p l e R s m args below meth c T locs cells slots) (hx : p.tables.exec = Jvm.exec) {pc : Nat} {Ls : Array Slot} {z : Int32} {rest : List Value} (hret : meth.sig.returnType = some .int) (hd : decode c.code pc = .ok (.ireturn, 1)) {fs : List Frame}
    (hl : ∀ (f : JFrame) (acts : List Action), f.method = m → f.locked = none → f.entered = [] → (doReturn e (T.setTop f) acts (some (.int z))).1 = T.setFrames fs) : Steps p.tables e below (T.setTop (mkF m pc Ls (.int z :: rest))) (T.setFrames fs) := by
  have hm' : T.vm.method? m = some meth := X.method'
  have hn : narrow .int (.int z) = .int z := rfl
  show Steps p.tables e below (T.setTop { method := m, pc := pc, locals := Ls, stack := _ :: rest, locked := none }) _
  jvm_step X.here [X.here.top, hx, hd, hm', hret, hn]
  first | (intro acts; rw [hl _ acts rfl rfl rfl]) | rw [hl _ _ rfl rfl rfl]
  exact Steps.refl _
end New
end Jvm.RoadKit
namespace Jvm.Pilot.@@N@@
open Jvm Jvm.ClassFile Sem Op Lib Jvm.Free Jvm.Stand Jvm.LawKit Jvm.RoadKit Bundle Jvm.Pilot.@@N@@.Jvm.D
/-! small facts of my own -/
theorem own_fld {args : Array Value} {s : State} {t : Term} {a : Addr} {C n d : String} {k : Int32} (ev : t.eval args s none [] s = some (.ref a)) (h : (Jvm.Cond.eq (.field t C n d) (.int k)).value args s none s [] = some true) : Fld s s.heap a C n d (.int k) := by
  refine Fld.start ?_
  have h2 : (Term.field t C n d).eval args s none [] s = s.fieldOf? a C n d := by simp [Term.eval, ev]
  obtain ⟨x, y, e1, e2, k1, k2⟩ := cmp_v (Or.inl h)
  have e3 : y = .int k := (Option.some.inj e2).symm
  subst e3
  obtain ⟨z, rfl⟩ := k2
  have e4 : z = k := by simpa [Jvm.Cond.value, e1, e2] using h
  rw [← h2, e1, e4]
theorem own_leT {k : Nat} {T : State} {h : Heap} (e : T.heap = h) (hk : k ≤ h.size) : k ≤ T.heap.size := by rw [e]; exact hk
theorem own_lcmp0 {x : Int64} : lcmpW x x = 0 := (lw_eq x x).mpr rfl
theorem own_lt {x j k : Int32} (h : x < j) (q : ¬ k < j) : x < k := by rw [Int32.lt_iff_toInt_lt] at *; omega
theorem own_gt {x j k : Int32} (h : j < x) (q : ¬ j < k) : k < x := by rw [Int32.lt_iff_toInt_lt] at *; omega
theorem own_nlt {x j k : Int32} (h : j < x) (q : ¬ j.toInt + 1 < k.toInt) : ¬ x < k := by rw [Int32.lt_iff_toInt_lt] at *; omega
theorem own_ngt {x j k : Int32} (h : x < j) (q : ¬ k.toInt + 1 < j.toInt) : ¬ k < x := by rw [Int32.lt_iff_toInt_lt] at *; omega
theorem own_nelo {x j k : Int32} (h : j < x) (q : ¬ j < k) : ¬ x = k := fun e => by subst e; exact q h
theorem own_nehi {x j k : Int32} (h : x < j) (q : ¬ k < j) : ¬ x = k := fun e => by subst e; exact q h
theorem own_ilt {x k : Int32} {z : Int} (e : k.toInt = z) (h : x.toInt < z) : x < k := by rw [Int32.lt_iff_toInt_lt, e]; exact h
theorem own_igt {x k : Int32} {z : Int} (e : k.toInt = z) (h : z < x.toInt) : k < x := by rw [Int32.lt_iff_toInt_lt, e]; exact h
theorem own_ne {Z : State} {h : Heap} {a b : Addr} {C n d : String} {v w : Value} (F : Fld Z h a C n d v) (G : Fld Z h b C n d w) (hn : v ≠ w) : ¬ (a = b) := fun e => by
  subst e
  obtain ⟨c1, f1, k1, i1, g1, h1, h2, -, -, -, -, h7⟩ := F
  obtain ⟨c2, f2, k2, i2, g2, j1, j2, -, -, -, -, j7⟩ := G
  cases h1.symm.trans j1
  cases h2.symm.trans j2
  exact hn (Option.some.inj (h7.symm.trans j7))

theorem own_sta_keep {Z : State} {h h' : Heap} {C n d : String} {v : Value} (F : Sta Z h C n d v) (K : Keep h h' []) : Sta Z h' C n d v := by
  obtain ⟨cf, i, k, f, st, cell, h1, h2, h3, h4, h5, r⟩ := F
  exact ⟨cf, i, k, f, st, cell, h1, h2, h3, h4, K.2.1 _ _ h5 nin0, r⟩
theorem own_sta_keep1 {Z : State} {h h' : Heap} {C n d K' : String} {v : Value} {b : Addr} (F : Sta Z h C n d v) (K : Keep h h' [b]) (E : Exa Z h b K') : Sta Z h' C n d v := by
  obtain ⟨cf, i, k, f, st, cell, h1, h2, h3, h4, h5, h6, r⟩ := F
  obtain ⟨c2, k2, e1, -, -, e4, -⟩ := E
  refine ⟨cf, i, k, f, st, cell, h1, h2, h3, h4, K.2.1 _ _ h5 (ninS (fun q => ?_) nin0), h6, r⟩
  subst q
  cases h5.symm.trans e1
  rw [h6] at e4; cases e4
section OwnArr
variable {p : Program} {l : Launch} {e : Env} {R : Room} {s : State} {m : MethodId} {args : Array Value} {below : List Frame} {meth : Method} {c : Code} {T : State} {locs : List Loc} {cells slots : Nat} {Z : State} {h : Heap}
theorem own_stI (X : Stand p l e R s m args below meth c T locs cells slots) (hx : p.tables.exec = Jvm.exec) (hZ : Z.Warmed39 s.vm) (eT : T.heap = h) {a : Addr} {k : ClassId} {z j x : Int32} {vs : List Value} {d : Value} (V : Arv Z h a k .int z vs d) (i : Nat) (hj : j.toNatClampNeg = i) (hin : ¬ j < 0 ∧ j < z) (hi : i < vs.length) {g : JFrame} (hg : g.method = m) {rest : List Value} (hs : g.stack = .int x :: .int j :: .ref a :: rest) (hd : decode c.code g.pc = .ok (.iastore, 1)) :
    ∃ T' h', Stand p l e R s m args below meth c T' (locs ++ [⟨a, j.toNatClampNeg⟩]) cells slots ∧ T'.heap = h' ∧ Wr h h' a j.toNatClampNeg (.int x) ∧ Arv Z h' a k .int z (vs.set i (.int x)) d ∧ ∀ target, Steps p.tables e below (T'.setTop { g with pc := g.pc + 1, stack := rest }) target → Steps p.tables e below (T.setTop g) target := by
  obtain ⟨cl, A, q1, S, q3, H, G⟩ := V
  obtain ⟨T', h', X', e', W, st⟩ := stI X hx hZ eT A (j := j) (inb_of S hin) hg hs hd
  exact ⟨T', h', X', e', W, Arv.set A q1 S q3 H G rfl W i hj hi, st⟩
theorem own_stR (X : Stand p l e R s m args below meth c T locs cells slots) (hx : p.tables.exec = Jvm.exec) (hZ : Z.Warmed39 s.vm) (eT : T.heap = h) {a y : Addr} {k : ClassId} {z j : Int32} {vs : List Value} {d : Value} {C : String} (V : Arv Z h a k (.object C) z vs d) (O : Ovr Z k C) (I : Ins Z h y C true) (i : Nat) (hj : j.toNatClampNeg = i) (hin : ¬ j < 0 ∧ j < z) (hi : i < vs.length) {g : JFrame} (hg : g.method = m) {rest : List Value} (hs : g.stack = .ref y :: .int j :: .ref a :: rest) (hd : decode c.code g.pc = .ok (.aastore, 1)) :
    ∃ T' h', Stand p l e R s m args below meth c T' (locs ++ [⟨a, j.toNatClampNeg⟩]) cells slots ∧ T'.heap = h' ∧ Wr h h' a j.toNatClampNeg (.ref y) ∧ Arv Z h' a k (.object C) z (vs.set i (.ref y)) d ∧ ∀ target, Steps p.tables e below (T'.setTop { g with pc := g.pc + 1, stack := rest }) target → Steps p.tables e below (T.setTop g) target := by
  obtain ⟨cl, A, q1, S, q3, H, G⟩ := V
  obtain ⟨T', h', X', e', W, st⟩ := stR X hx hZ eT A (j := j) (inb_of S hin) rfl (Sto.ofV A q1 O I) hg hs hd
  exact ⟨T', h', X', e', W, Arv.set A q1 S q3 H G rfl W i hj hi, st⟩
theorem own_ldI (X : Stand p l e R s m args below meth c T locs cells slots) (hx : p.tables.exec = Jvm.exec) (hZ : Z.Warmed39 s.vm) (eT : T.heap = h) {a : Addr} {k : ClassId} {z j : Int32} {vs : List Value} {d v : Value} (V : Arv Z h a k .int z vs d) (hin : ¬ j < 0 ∧ j < z) (hv : vs.getD j.toNatClampNeg d = v) {g : JFrame} (hg : g.method = m) {rest : List Value} (hs : g.stack = .int j :: .ref a :: rest) (hd : decode c.code g.pc = .ok (.iaload, 1)) :
    ∀ target, Steps p.tables e below (T.setTop { g with pc := g.pc + 1, stack := v :: rest }) target → Steps p.tables e below (T.setTop g) target := by
  obtain ⟨cl, A, q1, S, q3, H, G⟩ := V
  have hin' := inb_of S hin
  exact X.iaload hx (by rw [eT]; exact A.1) (State.isArrayOf_alike hZ.alike A.2.1) A.2.2 hin' (H.at hin' hv) hg hs hd
theorem own_ldR (X : Stand p l e R s m args below meth c T locs cells slots) (hx : p.tables.exec = Jvm.exec) (hZ : Z.Warmed39 s.vm) (eT : T.heap = h) {a : Addr} {k : ClassId} {z j : Int32} {vs : List Value} {d v : Value} {C : String} (V : Arv Z h a k (.object C) z vs d) (hin : ¬ j < 0 ∧ j < z) (hv : vs.getD j.toNatClampNeg d = v) {g : JFrame} (hg : g.method = m) {rest : List Value} (hs : g.stack = .int j :: .ref a :: rest) (hd : decode c.code g.pc = .ok (.aaload, 1)) :
    ∀ target, Steps p.tables e below (T.setTop { g with pc := g.pc + 1, stack := v :: rest }) target → Steps p.tables e below (T.setTop g) target := by
  obtain ⟨cl, A, q1, S, q3, H, G⟩ := V
  have hin' := inb_of S hin
  exact X.aaload hx (by rw [eT]; exact A.1) (State.isArrayOf_alike hZ.alike A.2.1) rfl A.2.2 hin' (H.at hin' hv) hg hs hd
end OwnArr

theorem own_wS {Z : State} {a0 : Array Value} (hw : ∀ d ∈ tables_1, d.before a0 Z = true) : ∀ a ∈ Bundle.stringAtoms, a.before a0 Z = true := fun d hd => by
  simp only [Bundle.stringAtoms, List.mem_cons, List.not_mem_nil, or_false] at hd
  rcases hd with rfl | rfl | rfl | rfl | rfl | rfl | rfl
  · exact hw _ (List.mem_of_getElem? (i := 21) rfl)
  · exact hw _ (List.mem_of_getElem? (i := 22) rfl)
  · exact hw _ (List.mem_of_getElem? (i := 23) rfl)
  · exact hw _ (List.mem_of_getElem? (i := 24) rfl)
  · exact hw _ (List.mem_of_getElem? (i := 25) rfl)
  · exact hw _ (List.mem_of_getElem? (i := 26) rfl)
  · exact hw _ (List.mem_of_getElem? (i := 27) rfl)
theorem d1_0 : decode prog_16_method_2_code 0 = .ok (.new 16, 3) := by decide +kernel
theorem d1_3 : decode prog_16_method_2_code 3 = .ok (.dup, 1) := by decide +kernel
theorem d1_4 : decode prog_16_method_2_code 4 = .ok (.getstatic 28, 3) := by decide +kernel
theorem d1_7 : decode prog_16_method_2_code 7 = .ok (.aconst_null, 1) := by decide +kernel
theorem d1_8 : decode prog_16_method_2_code 8 = .ok (.aconst_null, 1) := by decide +kernel
theorem d1_9 : decode prog_16_method_2_code 9 = .ok (.invokespecial 33, 3) := by decide +kernel
theorem d2_0 : decode prog_16_method_1_code 0 = .ok (.aload_n 0, 1) := by decide +kernel
theorem d2_1 : decode prog_16_method_1_code 1 = .ok (.invokespecial 1, 3) := by decide +kernel
theorem d3_0 : decode jdk_30_method_1_code 0 = .ok (.aload_n 0, 1) := by decide +kernel
theorem d3_1 : decode jdk_30_method_1_code 1 = .ok (.invokespecial 1, 3) := by decide +kernel
theorem d3_4 : decode jdk_30_method_1_code 4 = .ok (.return_, 1) := by decide +kernel
theorem pn_3 : plainName "java/lang/Record" = true := by first | (simp [plainName, overriddenIn]; done) | decide +kernel
theorem pd___V : parseMethodDescriptor "()V" = some ⟨[], none⟩ := by decide +kernel
theorem d2_4 : decode prog_16_method_1_code 4 = .ok (.aload_n 1, 1) := by decide +kernel
theorem d2_5 : decode prog_16_method_1_code 5 = .ok (.ldc 7, 2) := by decide +kernel
theorem d2_7 : decode prog_16_method_1_code 7 = .ok (.invokestatic 9, 3) := by decide +kernel
theorem d5_0 : decode jdk_31_method_11_code 0 = .ok (.aload_n 0, 1) := by decide +kernel
theorem d5_1 : decode jdk_31_method_11_code 1 = .ok (.ifnonnull 12, 3) := by decide +kernel
theorem d5_13 : decode jdk_31_method_11_code 13 = .ok (.aload_n 0, 1) := by decide +kernel
theorem d5_14 : decode jdk_31_method_11_code 14 = .ok (.areturn, 1) := by decide +kernel
theorem pn_5 : plainName "java/util/Objects" = true := by first | (simp [plainName, overriddenIn]; done) | decide +kernel
theorem pd__Ljava_lang_Object_Ljava_lang_String__Ljava_lang_Object_ : parseMethodDescriptor "(Ljava/lang/Object;Ljava/lang/String;)Ljava/lang/Object;" = some ⟨[(.object "java/lang/Object"), (.object "java/lang/String")], some (.object "java/lang/Object")⟩ := by decide +kernel
theorem d2_10 : decode prog_16_method_1_code 10 = .ok (.pop, 1) := by decide +kernel
theorem d2_11 : decode prog_16_method_1_code 11 = .ok (.aload_n 0, 1) := by decide +kernel
theorem d2_12 : decode prog_16_method_1_code 12 = .ok (.aload_n 1, 1) := by decide +kernel
theorem d2_13 : decode prog_16_method_1_code 13 = .ok (.putfield 15, 3) := by decide +kernel
theorem d2_16 : decode prog_16_method_1_code 16 = .ok (.aload_n 0, 1) := by decide +kernel
theorem d2_17 : decode prog_16_method_1_code 17 = .ok (.aload_n 2, 1) := by decide +kernel
theorem d2_18 : decode prog_16_method_1_code 18 = .ok (.putfield 20, 3) := by decide +kernel
theorem d2_21 : decode prog_16_method_1_code 21 = .ok (.aload_n 0, 1) := by decide +kernel
theorem d2_22 : decode prog_16_method_1_code 22 = .ok (.aload_n 3, 1) := by decide +kernel
theorem d2_23 : decode prog_16_method_1_code 23 = .ok (.putfield 24, 3) := by decide +kernel
theorem d2_26 : decode prog_16_method_1_code 26 = .ok (.return_, 1) := by decide +kernel
theorem pn_2 : plainName "com/example/stanza_filter/stanzafilter/engine/Verdict" = true := by first | (simp [plainName, overriddenIn]; done) | decide +kernel
theorem pd__Lcom_example_stanza_filter_stanzafilter_engine_Action_Ljava_lang_String_Lcom_example_stanza_filter_stanzafilter_engine_PrivacyItem__V : parseMethodDescriptor "(Lcom/example/stanza_filter/stanzafilter/engine/Action;Ljava/lang/String;Lcom/example/stanza_filter/stanzafilter/engine/PrivacyItem;)V" = some ⟨[(.object "com/example/stanza_filter/stanzafilter/engine/Action"), (.object "java/lang/String"), (.object "com/example/stanza_filter/stanzafilter/engine/PrivacyItem")], none⟩ := by decide +kernel
theorem d1_12 : decode prog_16_method_2_code 12 = .ok (.areturn, 1) := by decide +kernel
theorem pn_1 : plainName "com/example/stanza_filter/stanzafilter/engine/Verdict" = true := by first | (simp [plainName, overriddenIn]; done) | decide +kernel
theorem pd___Lcom_example_stanza_filter_stanzafilter_engine_Verdict_ : parseMethodDescriptor "()Lcom/example/stanza_filter/stanzafilter/engine/Verdict;" = some ⟨[], some (.object "com/example/stanza_filter/stanzafilter/engine/Verdict")⟩ := by decide +kernel
theorem d6_0 : decode prog_16_method_6_code 0 = .ok (.aload_n 0, 1) := by decide +kernel
theorem d6_1 : decode prog_16_method_6_code 1 = .ok (.getfield 15, 3) := by decide +kernel
theorem d6_4 : decode prog_16_method_6_code 4 = .ok (.areturn, 1) := by decide +kernel
theorem pn_6 : plainName "com/example/stanza_filter/stanzafilter/engine/Verdict" = true := by first | (simp [plainName, overriddenIn]; done) | decide +kernel
theorem pd___Lcom_example_stanza_filter_stanzafilter_engine_Action_ : parseMethodDescriptor "()Lcom/example/stanza_filter/stanzafilter/engine/Action;" = some ⟨[], some (.object "com/example/stanza_filter/stanzafilter/engine/Action")⟩ := by decide +kernel
theorem d7_0 : decode prog_16_method_7_code 0 = .ok (.aload_n 0, 1) := by decide +kernel
theorem d7_1 : decode prog_16_method_7_code 1 = .ok (.getfield 20, 3) := by decide +kernel
theorem d7_4 : decode prog_16_method_7_code 4 = .ok (.areturn, 1) := by decide +kernel
theorem pn_7 : plainName "com/example/stanza_filter/stanzafilter/engine/Verdict" = true := by first | (simp [plainName, overriddenIn]; done) | decide +kernel
theorem pd___Ljava_lang_String_ : parseMethodDescriptor "()Ljava/lang/String;" = some ⟨[], some (.object "java/lang/String")⟩ := by decide +kernel
theorem d8_0 : decode prog_16_method_8_code 0 = .ok (.aload_n 0, 1) := by decide +kernel
theorem d8_1 : decode prog_16_method_8_code 1 = .ok (.getfield 24, 3) := by decide +kernel
theorem d8_4 : decode prog_16_method_8_code 4 = .ok (.areturn, 1) := by decide +kernel
theorem pn_8 : plainName "com/example/stanza_filter/stanzafilter/engine/Verdict" = true := by first | (simp [plainName, overriddenIn]; done) | decide +kernel
theorem pd___Lcom_example_stanza_filter_stanzafilter_engine_PrivacyItem_ : parseMethodDescriptor "()Lcom/example/stanza_filter/stanzafilter/engine/PrivacyItem;" = some ⟨[], some (.object "com/example/stanza_filter/stanzafilter/engine/PrivacyItem")⟩ := by decide +kernel
theorem pn_0 : plainName "com/example/stanza_filter/stanzafilter/engine/VerdictNoListPinLaw" = true := by first | (simp [plainName, overriddenIn]; done) | decide +kernel
def Q3_o1 (Z : State) (o1 : Addr) (h0 : Heap) (n0 : Nat) (v : Option Value) (h : Heap) (L : List Loc) : Prop := v = none ∧ Fr n0 L ∧ h = h0
set_option maxRecDepth 65536 in
set_option maxHeartbeats 40000000 in
theorem rm3_o1 (l : Launch) (Z : State) (a0 : Array Value) (hw : ∀ d ∈ tables_1, d.before a0 Z = true) (ws : List Jvm.Cond) (o1 : Addr) (h0 : Heap) (n0 : Nat) (Z0 : n0 ≤ h0.size) :
    MetFree l (⟨"java/lang/Record", "<init>", "()V"⟩ : MethodName) (head1 (Jvm.Cond.code (⟨"java/lang/Record", "<init>", "()V"⟩ : MethodName) jdk_30_method_1_code 1 none :: ws) ({ frames := 1, cells := 0, slots := 0, locals := 12 } : Room)) (fun a U => a = #[(.ref o1)] ∧ Z.Warmed39 U.vm ∧ U.heap = h0) (fun _ _ _ _ _ => True) (fun _ U o U' => ∃ v L, o = .returned v ∧ Q3_o1 Z o1 h0 n0 v U'.heap L ∧ FrameEnd U o U' L ({ frames := 1, cells := 0, slots := 0, locals := 12 } : Room).cells ({ frames := 1, cells := 0, slots := 0, locals := 12 } : Room).slots) := by
  refine MetFree.of_bodySF (plainFor_of_name pn_3) hisR ?_
  intro p e s m args below meth c s₁ Bd hml0 hP hK
  obtain ⟨rfl, hZ, hh⟩ := hP
  have hx := Bd.exec
  have hby := Bd.bytes
  have hml : c.maxLocals = 1 := hml0
  have hown : s.vm.findClass "java/lang/Record" = some m.cls := findClass_of_methodNamed Bd.named
  have hnm := (name_of_methodNamed Bd.named Bd.method).1
  have X0 : Stand p l e ({ frames := 1, cells := 0, slots := 0, locals := 12 } : Room) s m #[(.ref o1)] below meth c s₁ [] 0 0 := Stand.of_body Bd
  have e0 : s₁.heap = h0 := by rw [← hh, Bd.state]; rfl
  have N0 := Fr.nil n0
  have pre0 : ∀ t, Steps p.tables e below (s₁.setTop (mkF m 0 #[.val (.ref o1)] [])) t → Steps p.tables e below (s₁.setTop (entryFrame m #[(.ref o1)] 1)) t := fun t k => castTop (by first | (simp [entryFrame, mkF, argsToLocals, Value.category]; done) | rfl) k
  obtain ⟨T1, X1, e1, st1⟩ := initO X0 hx hZ hown (hw _ (List.mem_of_getElem? (i := 17) rfl)) (hw _ (List.mem_of_getElem? (i := 18) rfl)) (hw _ (List.mem_of_getElem? (i := 19) rfl)) e0 (g := (mkF m 1 #[.val (.ref o1)] [(.ref o1)])) rfl (by rw [hml]; rfl) rfl (hb hby d3_1) (by decide) (W := 0) (by show 2 * 0 + _ ≤ _; exact Nat.le_of_eq rfl) (by decide)
  obtain ⟨fs, hr, hrun, hended, hW, hsame⟩ := X1.leave (v := none) (fun _ => rfl)
  refine ⟨_, _, pre0 _ ?_, hrun, hended, _, _, rfl, ?_, ⟨_, rfl⟩, hW, hsame.mono (by decide) (by decide)⟩
  · show Steps p.tables e below (s₁.setTop (mkF m 0 #[.val (.ref o1)] [])) _
    refine XS.aloadN X0.here hx rfl (hb hby d3_0) rfl rfl ?_
    show Steps p.tables e below (s₁.setTop (mkF m 1 #[.val (.ref o1)] [(.ref o1)])) _
    refine st1 _ ?_
    show Steps p.tables e below (T1.setTop (mkF m 4 #[.val (.ref o1)] [])) _
    exact X1.returnOut hx Bd.returns (hb hby d3_4) hr
  · show Q3_o1 Z o1 h0 n0 _ T1.heap _
    rw [e1]
    exact ⟨rfl, N0, rfl⟩
def Q5_w_ALLOW_o1 (Z : State) (w_ALLOW : Addr) (o1 : Addr) (h0 : Heap) (n0 : Nat) (v : Option Value) (h : Heap) (L : List Loc) : Prop := v = some (.ref w_ALLOW) ∧ Fr n0 L ∧ h = h0
set_option maxRecDepth 65536 in
set_option maxHeartbeats 40000000 in
theorem rm5_w_ALLOW_o1 (l : Launch) (Z : State) (a0 : Array Value) (hw : ∀ d ∈ tables_1, d.before a0 Z = true) (ws : List Jvm.Cond) (w_ALLOW : Addr) (o1 : Addr) (h0 : Heap) (n0 : Nat) (Z0 : n0 ≤ h0.size) :
    MetFree l (⟨"java/util/Objects", "requireNonNull", "(Ljava/lang/Object;Ljava/lang/String;)Ljava/lang/Object;"⟩ : MethodName) (head1 (Jvm.Cond.code (⟨"java/util/Objects", "requireNonNull", "(Ljava/lang/Object;Ljava/lang/String;)Ljava/lang/Object;"⟩ : MethodName) jdk_31_method_11_code 2 (some (.object "java/lang/Object")) :: ws) ({ frames := 0, cells := 0, slots := 0, locals := 0 } : Room)) (fun a U => a = #[(.ref w_ALLOW), (.ref o1)] ∧ Z.Warmed39 U.vm ∧ U.heap = h0) (fun _ _ _ _ _ => True) (fun _ U o U' => ∃ v L, o = .returned v ∧ Q5_w_ALLOW_o1 Z w_ALLOW o1 h0 n0 v U'.heap L ∧ FrameEnd U o U' L ({ frames := 0, cells := 0, slots := 0, locals := 0 } : Room).cells ({ frames := 0, cells := 0, slots := 0, locals := 0 } : Room).slots) := by
  refine MetFree.of_bodySF (plainFor_of_name pn_5) hisR ?_
  intro p e s m args below meth c s₁ Bd hml0 hP hK
  obtain ⟨rfl, hZ, hh⟩ := hP
  have hx := Bd.exec
  have hby := Bd.bytes
  have hml : c.maxLocals = 2 := hml0
  have hown : s.vm.findClass "java/util/Objects" = some m.cls := findClass_of_methodNamed Bd.named
  have hnm := (name_of_methodNamed Bd.named Bd.method).1
  have X0 : Stand p l e ({ frames := 0, cells := 0, slots := 0, locals := 0 } : Room) s m #[(.ref w_ALLOW), (.ref o1)] below meth c s₁ [] 0 0 := Stand.of_body Bd
  have e0 : s₁.heap = h0 := by rw [← hh, Bd.state]; rfl
  have N0 := Fr.nil n0
  have pre0 : ∀ t, Steps p.tables e below (s₁.setTop (mkF m 0 #[.val (.ref w_ALLOW), .val (.ref o1)] [])) t → Steps p.tables e below (s₁.setTop (entryFrame m #[(.ref w_ALLOW), (.ref o1)] 2)) t := fun t k => castTop (by first | (simp [entryFrame, mkF, argsToLocals, Value.category]; done) | rfl) k
  obtain ⟨fs, hr, hrun, hended, hW, hsame⟩ := X0.leave (v := some (.ref w_ALLOW)) (fun h => by rw [Bd.returns] at h; cases h)
  refine ⟨_, _, pre0 _ ?_, hrun, hended, _, _, rfl, ?_, ⟨_, rfl⟩, hW, hsame.mono (by decide) (by decide)⟩
  · show Steps p.tables e below (s₁.setTop (mkF m 0 #[.val (.ref w_ALLOW), .val (.ref o1)] [])) _
    refine XS.aloadN X0.here hx rfl (hb hby d5_0) rfl rfl ?_
    show Steps p.tables e below (s₁.setTop (mkF m 1 #[.val (.ref w_ALLOW), .val (.ref o1)] [(.ref w_ALLOW)])) _
    refine XS.ifnonnullYes X0.here hx rfl (pc0 := 1) (pc' := 13) rfl (hb hby d5_1) rfl (by decide) (by decide) ?_
    show Steps p.tables e below (s₁.setTop (mkF m 13 #[.val (.ref w_ALLOW), .val (.ref o1)] [])) _
    refine XS.aloadN X0.here hx rfl (hb hby d5_13) rfl rfl ?_
    show Steps p.tables e below (s₁.setTop (mkF m 14 #[.val (.ref w_ALLOW), .val (.ref o1)] [(.ref w_ALLOW)])) _
    jvm_step X0.here [X0.here.top, hx, (hb hby d5_14), X0.method', Bd.returns, Value.isRef, FieldType.isReference]
    first | (intro acts; rw [hr _ acts rfl rfl rfl]) | rw [hr _ _ rfl rfl rfl]
    exact Steps.refl _
  · show Q5_w_ALLOW_o1 Z w_ALLOW o1 h0 n0 _ s₁.heap _
    rw [e0]
    exact ⟨rfl, N0, rfl⟩
def Q2_o1_w_ALLOW_null_null (Z : State) (o1 : Addr) (w_ALLOW : Addr) (h0 : Heap) (n0 : Nat) (v : Option Value) (h : Heap) (L : List Loc) : Prop := v = none ∧ Fr n0 L ∧ Keep h0 h [o1] ∧ Exa Z h o1 "com/example/stanza_filter/stanzafilter/engine/Verdict" ∧ Fld Z h o1 "com/example/stanza_filter/stanzafilter/engine/Verdict" "action" "Lcom/example/stanza_filter/stanzafilter/engine/Action;" (.ref w_ALLOW) ∧ Fld Z h o1 "com/example/stanza_filter/stanzafilter/engine/Verdict" "list" "Ljava/lang/String;" .null ∧ Fld Z h o1 "com/example/stanza_filter/stanzafilter/engine/Verdict" "item" "Lcom/example/stanza_filter/stanzafilter/engine/PrivacyItem;" .null
set_option maxRecDepth 65536 in
set_option maxHeartbeats 40000000 in
theorem rm2_o1_w_ALLOW_null_null (l : Launch) (Z : State) (a0 : Array Value) (hw : ∀ d ∈ tables_1, d.before a0 Z = true) (ws : List Jvm.Cond) (o1 : Addr) (w_ALLOW : Addr) (h0 : Heap) (n0 : Nat) (Z0 : n0 ≤ h0.size) (E_o1 : Exa Z h0 o1 "com/example/stanza_filter/stanzafilter/engine/Verdict") (F_action_o1 : Fld Z h0 o1 "com/example/stanza_filter/stanzafilter/engine/Verdict" "action" "Lcom/example/stanza_filter/stanzafilter/engine/Action;" .null) (g_o1 : n0 ≤ o1) (F_list_o1 : Fld Z h0 o1 "com/example/stanza_filter/stanzafilter/engine/Verdict" "list" "Ljava/lang/String;" .null) (F_item_o1 : Fld Z h0 o1 "com/example/stanza_filter/stanzafilter/engine/Verdict" "item" "Lcom/example/stanza_filter/stanzafilter/engine/PrivacyItem;" .null) :
    MetFree l (⟨"com/example/stanza_filter/stanzafilter/engine/Verdict", "<init>", "(Lcom/example/stanza_filter/stanzafilter/engine/Action;Ljava/lang/String;Lcom/example/stanza_filter/stanzafilter/engine/PrivacyItem;)V"⟩ : MethodName) (head1 (Jvm.Cond.code (⟨"com/example/stanza_filter/stanzafilter/engine/Verdict", "<init>", "(Lcom/example/stanza_filter/stanzafilter/engine/Action;Ljava/lang/String;Lcom/example/stanza_filter/stanzafilter/engine/PrivacyItem;)V"⟩ : MethodName) prog_16_method_1_code 4 none :: ws) ({ frames := 2, cells := 2, slots := 28, locals := 24 } : Room)) (fun a U => a = #[(.ref o1), (.ref w_ALLOW), .null, .null] ∧ Z.Warmed39 U.vm ∧ U.heap = h0) (fun _ _ _ _ _ => True) (fun _ U o U' => ∃ v L, o = .returned v ∧ Q2_o1_w_ALLOW_null_null Z o1 w_ALLOW h0 n0 v U'.heap L ∧ ReturnedEndW U o U' L ({ frames := 2, cells := 2, slots := 28, locals := 24 } : Room).cells ({ frames := 2, cells := 2, slots := 28, locals := 24 } : Room).slots) := by
  refine MetFree.of_bodySF (plainFor_of_name pn_2) hisR ?_
  intro p e s m args below meth c s₁ Bd hml0 hP hK
  obtain ⟨rfl, hZ, hh⟩ := hP
  have hx := Bd.exec
  have hby := Bd.bytes
  have hml : c.maxLocals = 4 := hml0
  have hown : s.vm.findClass "com/example/stanza_filter/stanzafilter/engine/Verdict" = some m.cls := findClass_of_methodNamed Bd.named
  have hnm := (name_of_methodNamed Bd.named Bd.method).1
  have X0 : Stand p l e ({ frames := 2, cells := 2, slots := 28, locals := 24 } : Room) s m #[(.ref o1), (.ref w_ALLOW), .null, .null] below meth c s₁ [] 0 0 := Stand.of_body Bd
  have e0 : s₁.heap = h0 := by rw [← hh, Bd.state]; rfl
  have N0 := Fr.nil n0
  have pre0 : ∀ t, Steps p.tables e below (s₁.setTop (mkF m 0 #[.val (.ref o1), .val (.ref w_ALLOW), .val .null, .val .null] [])) t → Steps p.tables e below (s₁.setTop (entryFrame m #[(.ref o1), (.ref w_ALLOW), .null, .null] 4)) t := fun t k => castTop (by first | (simp [entryFrame, mkF, argsToLocals, Value.category]; done) | rfl) k
  obtain ⟨_, _, ⟨T1, L1, k1, n1⟩, -, X1, ⟨Lc1, hQ1, l1, y1, z1⟩, st1⟩ := X0.specialBack hx (y := (⟨"java/lang/Record", "<init>", "()V"⟩ : MethodName)) rfl hown (mvT hZ (hw _ (List.mem_of_getElem? (i := 12) rfl))) (mvT hZ (hw _ (List.mem_of_getElem? (i := 13) rfl))) (mvT hZ (hw _ (List.mem_of_getElem? (i := 16) rfl))) (by decide) (backOf (W := 0) (rm3_o1 l Z a0 hw [] o1 h0 n0 Z0) hZ (hw _ (List.mem_of_getElem? (i := 16) rfl)) (hw _ (List.mem_of_getElem? (i := 15) rfl)) (by decide) (by decide)) (g := (mkF m 1 #[.val (.ref o1), .val (.ref w_ALLOW), .val .null, .val .null] [(.ref o1)])) rfl (by rw [hml]; rfl) (Steps.refl _) (a := o1) (argsL := []) (rest := []) (lenOf pd___V rfl) rfl (by show 2 * 0 + _ ≤ _; exact Nat.le_of_eq rfl) (hb hby d2_1) (fun _ _ => ⟨rfl, e0, (by decide : 0 + 0 ≤ _), (by decide : 0 + 0 ≤ _)⟩)
  dsimp only [Pt.U, Pt.locs, Pt.cells, Pt.slots] at X1 l1 y1 z1 st1 hQ1
  subst l1 y1 z1
  obtain ⟨rfl, N1q, e1⟩ := hQ1
  have N1 := Fr.app N0 N1q
  have hZ2 : Z.Warmed39 T1.vm := wtrans hZ X1.warmed
  have hown2 : T1.vm.findClass "com/example/stanza_filter/stanzafilter/engine/Verdict" = some m.cls := by rw [X1.warmed.alike.findClass]; exact hown
  have hS2 : s.Since T1.vm T1.heap.size := X1.warmed.since _
  have hk2 : T1.heap.size ≤ h0.size := by rw [e1]; exact Nat.le_refl _
  have XR2 : Stand p l e _ (s.setVm T1.vm) m _ below meth c T1 _ _ _ := X1.retabled X1.warmed.wide
  obtain ⟨u3, T3, h3, j3, X3, e3, E3, hS3, hk3, hZ3, hown3, st3⟩ := ldcS XR2 hx hZ2 hown2 (hw _ (List.mem_of_getElem? (i := 20) rfl)) (own_wS hw) e1 hS2 hk2 (g := (mkF m 5 #[.val (.ref o1), .val (.ref w_ALLOW), .val .null, .val .null] [(.ref w_ALLOW)])) rfl (hb hby d2_5) (n := 24) (by decide) (by decide) (by decide) (by decide)
  have K3 : Keep h0 h3 [o1] := (Keep.refl h0 [o1]).ext E3
  obtain ⟨_, _, ⟨T4, L4, k4, n4⟩, -, X4, ⟨Lc4, hQ4, l4, y4, z4⟩, st4⟩ := Jvm.LawKit.callS X3 hx (y := (⟨"java/util/Objects", "requireNonNull", "(Ljava/lang/Object;Ljava/lang/String;)Ljava/lang/Object;"⟩ : MethodName)) hown3 (mvT hZ3 (hw _ (List.mem_of_getElem? (i := 28) rfl))) (mvT hZ3 (hw _ (List.mem_of_getElem? (i := 29) rfl))) (mvT hZ3 (hw _ (List.mem_of_getElem? (i := 30) rfl))) (mvT hZ3 (hw _ (List.mem_of_getElem? (i := 31) rfl))) (by decide) (backOf (W := 0) (rm5_w_ALLOW_o1 l Z a0 hw [] w_ALLOW u3 h3 n0 (Nat.le_trans Z0 K3.1)) hZ3 (hw _ (List.mem_of_getElem? (i := 31) rfl)) (hw _ (List.mem_of_getElem? (i := 30) rfl)) (by decide) (by decide)) (g := (mkF m 7 #[.val (.ref o1), .val (.ref w_ALLOW), .val .null, .val .null] [(.ref u3), (.ref w_ALLOW)])) rfl (by rw [hml]; rfl) (argsL := [(.ref w_ALLOW), (.ref u3)]) (rest := []) (lenOf pd__Ljava_lang_Object_Ljava_lang_String__Ljava_lang_Object_ rfl) rfl (by show 2 * 0 + _ ≤ _; exact Nat.le_of_eq rfl) (hb hby d2_7) (fun _ _ => ⟨rfl, e3, (by decide : 2 + 0 ≤ _), (by decide : 28 + 0 ≤ _)⟩)
  dsimp only [Pt.U, Pt.locs, Pt.cells, Pt.slots] at X4 l4 y4 z4 st4 hQ4
  subst l4 y4 z4
  obtain ⟨rfl, N4q, e4⟩ := hQ4
  have N4 := Fr.app N1 N4q
  obtain ⟨T5, h5, X5, e5, W5, st5⟩ := putF X4 hx hZ3 hown3 (host := "") (Or.inl (hw _ (List.mem_of_getElem? (i := 32) rfl))) Via.refl e4 (F_action_o1.ext E3) (E_o1.ext E3) (Or.inr ⟨(hw _ (List.mem_of_getElem? (i := 33) rfl)), rfl, hnm⟩) (hw _ (List.mem_of_getElem? (i := 5) rfl)) (ty := (.object "com/example/stanza_filter/stanzafilter/engine/Action")) (by decide) rfl rfl (g := (mkF m 13 #[.val (.ref o1), .val (.ref w_ALLOW), .val .null, .val .null] [(.ref w_ALLOW), (.ref o1)])) rfl rfl (hb hby d2_13)
  have Fw5 := (F_action_o1.ext E3).same W5
  have N5 := Fr.snoc X5 N4 g_o1
  have hkW5 := Nat.le_trans hk3 (Nat.le_of_eq W5.size.symm)
  have K5 : Keep h0 h5 [o1] := K3.wr W5 (Or.inl (List.mem_of_getElem? (i := 0) rfl))
  obtain ⟨T6, h6, X6, e6, W6, st6⟩ := putF X5 hx hZ3 hown3 (host := "") (Or.inl (hw _ (List.mem_of_getElem? (i := 34) rfl))) Via.refl e5 ((F_list_o1.ext E3).other W5 (Or.inr (slot_ne (Or.inr (hw _ (List.mem_of_getElem? (i := 35) rfl))) (Or.inr (hw _ (List.mem_of_getElem? (i := 33) rfl))) (by decide) (t := (.object "java/lang/String")) (t' := (.object "com/example/stanza_filter/stanzafilter/engine/Action")) (by decide) (by decide)))) ((E_o1.ext E3).wr W5) (Or.inr ⟨(hw _ (List.mem_of_getElem? (i := 35) rfl)), rfl, hnm⟩) (hw _ (List.mem_of_getElem? (i := 5) rfl)) (ty := (.object "java/lang/String")) (by decide) rfl rfl (g := (mkF m 18 #[.val (.ref o1), .val (.ref w_ALLOW), .val .null, .val .null] [.null, (.ref o1)])) rfl rfl (hb hby d2_18)
  have Fw6 := ((F_list_o1.ext E3).other W5 (Or.inr (slot_ne (Or.inr (hw _ (List.mem_of_getElem? (i := 35) rfl))) (Or.inr (hw _ (List.mem_of_getElem? (i := 33) rfl))) (by decide) (t := (.object "java/lang/String")) (t' := (.object "com/example/stanza_filter/stanzafilter/engine/Action")) (by decide) (by decide)))).same W6
  have N6 := Fr.snoc X6 N5 g_o1
  have hkW6 := Nat.le_trans hkW5 (Nat.le_of_eq W6.size.symm)
  have K6 : Keep h0 h6 [o1] := K5.wr W6 (Or.inl (List.mem_of_getElem? (i := 0) rfl))
  obtain ⟨T7, h7, X7, e7, W7, st7⟩ := putF X6 hx hZ3 hown3 (host := "") (Or.inl (hw _ (List.mem_of_getElem? (i := 36) rfl))) Via.refl e6 (((F_item_o1.ext E3).other W5 (Or.inr (slot_ne (Or.inr (hw _ (List.mem_of_getElem? (i := 37) rfl))) (Or.inr (hw _ (List.mem_of_getElem? (i := 33) rfl))) (by decide) (t := (.object "com/example/stanza_filter/stanzafilter/engine/PrivacyItem")) (t' := (.object "com/example/stanza_filter/stanzafilter/engine/Action")) (by decide) (by decide)))).other W6 (Or.inr (slot_ne (Or.inr (hw _ (List.mem_of_getElem? (i := 37) rfl))) (Or.inr (hw _ (List.mem_of_getElem? (i := 35) rfl))) (by decide) (t := (.object "com/example/stanza_filter/stanzafilter/engine/PrivacyItem")) (t' := (.object "java/lang/String")) (by decide) (by decide)))) (((E_o1.ext E3).wr W5).wr W6) (Or.inr ⟨(hw _ (List.mem_of_getElem? (i := 37) rfl)), rfl, hnm⟩) (hw _ (List.mem_of_getElem? (i := 5) rfl)) (ty := (.object "com/example/stanza_filter/stanzafilter/engine/PrivacyItem")) (by decide) rfl rfl (g := (mkF m 23 #[.val (.ref o1), .val (.ref w_ALLOW), .val .null, .val .null] [.null, (.ref o1)])) rfl rfl (hb hby d2_23)
  have Fw7 := (((F_item_o1.ext E3).other W5 (Or.inr (slot_ne (Or.inr (hw _ (List.mem_of_getElem? (i := 37) rfl))) (Or.inr (hw _ (List.mem_of_getElem? (i := 33) rfl))) (by decide) (t := (.object "com/example/stanza_filter/stanzafilter/engine/PrivacyItem")) (t' := (.object "com/example/stanza_filter/stanzafilter/engine/Action")) (by decide) (by decide)))).other W6 (Or.inr (slot_ne (Or.inr (hw _ (List.mem_of_getElem? (i := 37) rfl))) (Or.inr (hw _ (List.mem_of_getElem? (i := 35) rfl))) (by decide) (t := (.object "com/example/stanza_filter/stanzafilter/engine/PrivacyItem")) (t' := (.object "java/lang/String")) (by decide) (by decide)))).same W7
  have N7 := Fr.snoc X7 N6 g_o1
  have hkW7 := Nat.le_trans hkW6 (Nat.le_of_eq W7.size.symm)
  have K7 : Keep h0 h7 [o1] := K6.wr W7 (Or.inl (List.mem_of_getElem? (i := 0) rfl))
  obtain ⟨fs, hr, hrun, hended, hend⟩ := Stand.leaveW (s := s) X7 (v := none) hS3 (own_leT e7 hkW7) (fun _ => rfl)
  refine ⟨_, _, pre0 _ ?_, hrun, hended, _, _, rfl, ?_, hend.1, hend.2.1, hend.2.2.1, hend.2.2.2.mono (by decide) (by decide)⟩
  · show Steps p.tables e below (s₁.setTop (mkF m 0 #[.val (.ref o1), .val (.ref w_ALLOW), .val .null, .val .null] [])) _
    refine XS.aloadN X0.here hx rfl (hb hby d2_0) rfl rfl ?_
    show Steps p.tables e below (s₁.setTop (mkF m 1 #[.val (.ref o1), .val (.ref w_ALLOW), .val .null, .val .null] [(.ref o1)])) _
    refine st1.trans ?_
    show Steps p.tables e below (T1.setTop (mkF m 4 #[.val (.ref o1), .val (.ref w_ALLOW), .val .null, .val .null] [])) _
    refine XS.aloadN X1.here hx rfl (hb hby d2_4) rfl rfl ?_
    show Steps p.tables e below (T1.setTop (mkF m 5 #[.val (.ref o1), .val (.ref w_ALLOW), .val .null, .val .null] [(.ref w_ALLOW)])) _
    refine st3 _ ?_
    show Steps p.tables e below (T3.setTop (mkF m 7 #[.val (.ref o1), .val (.ref w_ALLOW), .val .null, .val .null] [(.ref u3), (.ref w_ALLOW)])) _
    refine st4 _ ?_
    show Steps p.tables e below (T4.setTop (mkF m 10 #[.val (.ref o1), .val (.ref w_ALLOW), .val .null, .val .null] [(.ref w_ALLOW)])) _
    refine XS.pop X4.here hx rfl (hb hby d2_10) rfl rfl ?_
    show Steps p.tables e below (T4.setTop (mkF m 11 #[.val (.ref o1), .val (.ref w_ALLOW), .val .null, .val .null] [])) _
    refine XS.aloadN X4.here hx rfl (hb hby d2_11) rfl rfl ?_
    show Steps p.tables e below (T4.setTop (mkF m 12 #[.val (.ref o1), .val (.ref w_ALLOW), .val .null, .val .null] [(.ref o1)])) _
    refine XS.aloadN X4.here hx rfl (hb hby d2_12) rfl rfl ?_
    show Steps p.tables e below (T4.setTop (mkF m 13 #[.val (.ref o1), .val (.ref w_ALLOW), .val .null, .val .null] [(.ref w_ALLOW), (.ref o1)])) _
    refine st5 _ ?_
    show Steps p.tables e below (T5.setTop (mkF m 16 #[.val (.ref o1), .val (.ref w_ALLOW), .val .null, .val .null] [])) _
    refine XS.aloadN X5.here hx rfl (hb hby d2_16) rfl rfl ?_
    show Steps p.tables e below (T5.setTop (mkF m 17 #[.val (.ref o1), .val (.ref w_ALLOW), .val .null, .val .null] [(.ref o1)])) _
    refine XS.aloadN X5.here hx rfl (hb hby d2_17) rfl rfl ?_
    show Steps p.tables e below (T5.setTop (mkF m 18 #[.val (.ref o1), .val (.ref w_ALLOW), .val .null, .val .null] [.null, (.ref o1)])) _
    refine st6 _ ?_
    show Steps p.tables e below (T6.setTop (mkF m 21 #[.val (.ref o1), .val (.ref w_ALLOW), .val .null, .val .null] [])) _
    refine XS.aloadN X6.here hx rfl (hb hby d2_21) rfl rfl ?_
    show Steps p.tables e below (T6.setTop (mkF m 22 #[.val (.ref o1), .val (.ref w_ALLOW), .val .null, .val .null] [(.ref o1)])) _
    refine XS.aloadN X6.here hx rfl (hb hby d2_22) rfl rfl ?_
    show Steps p.tables e below (T6.setTop (mkF m 23 #[.val (.ref o1), .val (.ref w_ALLOW), .val .null, .val .null] [.null, (.ref o1)])) _
    refine st7 _ ?_
    show Steps p.tables e below (T7.setTop (mkF m 26 #[.val (.ref o1), .val (.ref w_ALLOW), .val .null, .val .null] [])) _
    exact X7.returnOut hx Bd.returns (hb hby d2_26) hr
  · show Q2_o1_w_ALLOW_null_null Z o1 w_ALLOW h0 n0 _ T7.heap _
    rw [e7]
    exact ⟨rfl, N7, K7, ((((E_o1.ext E3).wr W5).wr W6).wr W7), ((Fw5.other W6 (Or.inr (slot_ne (Or.inr (hw _ (List.mem_of_getElem? (i := 33) rfl))) (Or.inr (hw _ (List.mem_of_getElem? (i := 35) rfl))) (by decide) (t := (.object "com/example/stanza_filter/stanzafilter/engine/Action")) (t' := (.object "java/lang/String")) (by decide) (by decide)))).other W7 (Or.inr (slot_ne (Or.inr (hw _ (List.mem_of_getElem? (i := 33) rfl))) (Or.inr (hw _ (List.mem_of_getElem? (i := 37) rfl))) (by decide) (t := (.object "com/example/stanza_filter/stanzafilter/engine/Action")) (t' := (.object "com/example/stanza_filter/stanzafilter/engine/PrivacyItem")) (by decide) (by decide)))), (Fw6.other W7 (Or.inr (slot_ne (Or.inr (hw _ (List.mem_of_getElem? (i := 35) rfl))) (Or.inr (hw _ (List.mem_of_getElem? (i := 37) rfl))) (by decide) (t := (.object "java/lang/String")) (t' := (.object "com/example/stanza_filter/stanzafilter/engine/PrivacyItem")) (by decide) (by decide)))), Fw7⟩
def Q1_u (Z : State) (w_ALLOW : Addr) (h0 : Heap) (n0 : Nat) (v : Option Value) (h : Heap) (L : List Loc) : Prop := ∃ (c1 : Addr), v = some (.ref c1) ∧ Fr n0 L ∧ Keep h0 h [] ∧ h0.size ≤ c1 ∧ Exa Z h c1 "com/example/stanza_filter/stanzafilter/engine/Verdict" ∧ Fld Z h c1 "com/example/stanza_filter/stanzafilter/engine/Verdict" "action" "Lcom/example/stanza_filter/stanzafilter/engine/Action;" (.ref w_ALLOW) ∧ Fld Z h c1 "com/example/stanza_filter/stanzafilter/engine/Verdict" "list" "Ljava/lang/String;" .null ∧ Fld Z h c1 "com/example/stanza_filter/stanzafilter/engine/Verdict" "item" "Lcom/example/stanza_filter/stanzafilter/engine/PrivacyItem;" .null
set_option maxRecDepth 65536 in
set_option maxHeartbeats 40000000 in
theorem rm1_u (l : Launch) (Z : State) (a0 : Array Value) (hw : ∀ d ∈ tables_1, d.before a0 Z = true) (ws : List Jvm.Cond) (w_ALLOW : Addr) (h0 : Heap) (n0 : Nat) (Z0 : n0 ≤ h0.size) (S_ALLOW : Sta Z h0 "com/example/stanza_filter/stanzafilter/engine/Action" "ALLOW" "Lcom/example/stanza_filter/stanzafilter/engine/Action;" (.ref w_ALLOW)) :
    MetFree l (⟨"com/example/stanza_filter/stanzafilter/engine/Verdict", "noList", "()Lcom/example/stanza_filter/stanzafilter/engine/Verdict;"⟩ : MethodName) (head1 (Jvm.Cond.code (⟨"com/example/stanza_filter/stanzafilter/engine/Verdict", "noList", "()Lcom/example/stanza_filter/stanzafilter/engine/Verdict;"⟩ : MethodName) prog_16_method_2_code 0 (some (.object "com/example/stanza_filter/stanzafilter/engine/Verdict")) :: ws) ({ frames := 3, cells := 3, slots := 31, locals := 40 } : Room)) (fun a U => a = #[] ∧ Z.Warmed39 U.vm ∧ U.heap = h0) (fun _ _ _ _ _ => True) (fun _ U o U' => ∃ v L, o = .returned v ∧ Q1_u Z w_ALLOW h0 n0 v U'.heap L ∧ ReturnedEndW U o U' L ({ frames := 3, cells := 3, slots := 31, locals := 40 } : Room).cells ({ frames := 3, cells := 3, slots := 31, locals := 40 } : Room).slots) := by
  refine MetFree.of_bodySF (plainFor_of_name pn_1) hisR ?_
  intro p e s m args below meth c s₁ Bd hml0 hP hK
  obtain ⟨rfl, hZ, hh⟩ := hP
  have hx := Bd.exec
  have hby := Bd.bytes
  have hml : c.maxLocals = 0 := hml0
  have hown : s.vm.findClass "com/example/stanza_filter/stanzafilter/engine/Verdict" = some m.cls := findClass_of_methodNamed Bd.named
  have hnm := (name_of_methodNamed Bd.named Bd.method).1
  have X0 : Stand p l e ({ frames := 3, cells := 3, slots := 31, locals := 40 } : Room) s m #[] below meth c s₁ [] 0 0 := Stand.of_body Bd
  have e0 : s₁.heap = h0 := by rw [← hh, Bd.state]; rfl
  have N0 := Fr.nil n0
  have pre0 : ∀ t, Steps p.tables e below (s₁.setTop (mkF m 0 #[] [])) t → Steps p.tables e below (s₁.setTop (entryFrame m #[] 0)) t := fun t k => castTop (by first | (simp [entryFrame, mkF, argsToLocals, Value.category]; done) | rfl) k
  obtain ⟨T1, h1, X1, e1, E1, A1, D1, -, st1⟩ := newO X0 hx hZ hown (hw _ (List.mem_of_getElem? (i := 4) rfl)) (hw _ (List.mem_of_getElem? (i := 5) rfl)) (hw _ (List.mem_of_getElem? (i := 2) rfl)) e0 (g := (mkF m 0 #[] [])) rfl (hb hby d1_0) (by decide) (by decide)
  obtain ⟨b1, g1⟩ : ∃ z, z = h0.size := ⟨_, rfl⟩
  have s_b1 : h0.size ≤ b1 := Nat.le_of_eq g1.symm
  have g_b1 : n0 ≤ b1 := Nat.le_trans Z0 s_b1
  have sz_b1 : h0.size ≤ b1 := s_b1
  rw [← g1] at A1 D1 st1
  have K1 : Keep h0 h1 [] := (Keep.refl h0 []).ext E1
  have F_action_b1 : Fld Z h1 b1 "com/example/stanza_filter/stanzafilter/engine/Verdict" "action" "Lcom/example/stanza_filter/stanzafilter/engine/Action;" .null := D1 (Or.inr (hw _ (List.mem_of_getElem? (i := 33) rfl))) (ty := (.object "com/example/stanza_filter/stanzafilter/engine/Action")) (by decide)
  have F_list_b1 : Fld Z h1 b1 "com/example/stanza_filter/stanzafilter/engine/Verdict" "list" "Ljava/lang/String;" .null := D1 (Or.inr (hw _ (List.mem_of_getElem? (i := 35) rfl))) (ty := (.object "java/lang/String")) (by decide)
  have F_item_b1 : Fld Z h1 b1 "com/example/stanza_filter/stanzafilter/engine/Verdict" "item" "Lcom/example/stanza_filter/stanzafilter/engine/PrivacyItem;" .null := D1 (Or.inr (hw _ (List.mem_of_getElem? (i := 37) rfl))) (ty := (.object "com/example/stanza_filter/stanzafilter/engine/PrivacyItem")) (by decide)
  obtain ⟨T2, X2, e2, st2⟩ := getS2 X1 hx hZ hown (host := "") (Or.inl (hw _ (List.mem_of_getElem? (i := 6) rfl))) Via.refl e1 (own_sta_keep S_ALLOW K1) (g := (mkF m 4 #[] [(.ref b1), (.ref b1)])) rfl (hb hby d1_4)
  have hZ4 : Z.Warmed39 T2.vm := wtrans hZ X2.warmed
  have hown4 : T2.vm.findClass "com/example/stanza_filter/stanzafilter/engine/Verdict" = some m.cls := by rw [X2.warmed.alike.findClass]; exact hown
  have hS4 : s.Since T2.vm T2.heap.size := X2.warmed.since _
  have hk4 : T2.heap.size ≤ h1.size := by rw [e2]; exact Nat.le_refl _
  have XR4 : Stand p l e _ (s.setVm T2.vm) m _ below meth c T2 _ _ _ := X2.retabled X2.warmed.wide
  obtain ⟨_, _, ⟨T3, L3, k3, n3⟩, -, X3, hSq3, hgq3, ⟨Lc3, hQ3, l3, y3, z3⟩, st3⟩ := XR4.specialBackS hx (y := (⟨"com/example/stanza_filter/stanzafilter/engine/Verdict", "<init>", "(Lcom/example/stanza_filter/stanzafilter/engine/Action;Ljava/lang/String;Lcom/example/stanza_filter/stanzafilter/engine/PrivacyItem;)V"⟩ : MethodName)) rfl hown4 (mvT hZ4 (hw _ (List.mem_of_getElem? (i := 9) rfl))) (mvT hZ4 (hw _ (List.mem_of_getElem? (i := 10) rfl))) (mvT hZ4 (hw _ (List.mem_of_getElem? (i := 11) rfl))) (by decide) (backOfS (W := 1) (rm2_o1_w_ALLOW_null_null l Z a0 hw [] b1 w_ALLOW h1 n0 (Nat.le_trans Z0 K1.1) A1 F_action_b1 g_b1 F_list_b1 F_item_b1) hZ4 (hw _ (List.mem_of_getElem? (i := 11) rfl)) (hw _ (List.mem_of_getElem? (i := 2) rfl)) (by decide) (by decide)) (g := (mkF m 9 #[] [.null, .null, (.ref w_ALLOW), (.ref b1), (.ref b1)])) rfl (by rw [hml]; rfl) (Steps.refl _) (a := b1) (argsL := [(.ref w_ALLOW), .null, .null]) (rest := [(.ref b1)]) (lenOf pd__Lcom_example_stanza_filter_stanzafilter_engine_Action_Ljava_lang_String_Lcom_example_stanza_filter_stanzafilter_engine_PrivacyItem__V rfl) rfl (by show 2 * 0 + _ ≤ _; exact Nat.le_of_eq rfl) (hb hby d1_9) (fun _ _ => ⟨rfl, e2, (by decide : 1 + 2 ≤ _), (by decide : 3 + 28 ≤ _)⟩)
  dsimp only [Pt.U, Pt.locs, Pt.cells, Pt.slots] at X3 l3 y3 z3 st3 hQ3 hSq3 hgq3
  subst l3 y3 z3
  obtain ⟨rfl, N3q, Kq3, fq3_0, fq3_1, fq3_2, fq3_3⟩ := hQ3
  have N3 := Fr.app N0 N3q
  have hS3 := foldS (T := T2) hS4 (own_leT e2 hk4) hSq3 hgq3
  have hk3 : T3.heap.size ≤ T3.heap.size := Nat.le_refl _
  have hZ3 : Z.Warmed39 (s.setVm T3.vm).vm := State.Warmed39.trans (t := s.setVm _) hZ4 hSq3.1
  have hown3 : (s.setVm T3.vm).vm.findClass "com/example/stanza_filter/stanzafilter/engine/Verdict" = some m.cls := by rw [show (s.setVm T3.vm).vm = T3.vm from rfl, hSq3.1.alike.findClass]; exact hown4
  have XW3 : Stand p l e _ (s.setVm T3.vm) m _ below meth c T3 _ _ _ := X3
  have K3 : Keep h0 T3.heap [] := K1.trans Kq3 (allS (Or.inr sz_b1) all0)
  obtain ⟨fs, hr, hrun, hended, hend⟩ := Stand.leaveW (s := s) XW3 (v := some (.ref b1)) hS3 (own_leT rfl hk3) (fun h => by rw [Bd.returns] at h; cases h)
  refine ⟨_, _, pre0 _ ?_, hrun, hended, _, _, rfl, ?_, hend.1, hend.2.1, hend.2.2.1, hend.2.2.2.mono (by decide) (by decide)⟩
  · show Steps p.tables e below (s₁.setTop (mkF m 0 #[] [])) _
    refine st1 _ ?_
    show Steps p.tables e below (T1.setTop (mkF m 3 #[] [(.ref b1)])) _
    refine XS.dup X1.here hx rfl (hb hby d1_3) rfl rfl ?_
    show Steps p.tables e below (T1.setTop (mkF m 4 #[] [(.ref b1), (.ref b1)])) _
    refine st2 _ ?_
    show Steps p.tables e below (T2.setTop (mkF m 7 #[] [(.ref w_ALLOW), (.ref b1), (.ref b1)])) _
    refine XS.aconstNull X2.here hx rfl (hb hby d1_7) ?_
    show Steps p.tables e below (T2.setTop (mkF m 8 #[] [.null, (.ref w_ALLOW), (.ref b1), (.ref b1)])) _
    refine XS.aconstNull X2.here hx rfl (hb hby d1_8) ?_
    show Steps p.tables e below (T2.setTop (mkF m 9 #[] [.null, .null, (.ref w_ALLOW), (.ref b1), (.ref b1)])) _
    refine st3.trans ?_
    show Steps p.tables e below (T3.setTop (mkF m 12 #[] [(.ref b1)])) _
    jvm_step XW3.here [XW3.here.top, hx, (hb hby d1_12), XW3.method', Bd.returns, Value.isRef, FieldType.isReference]
    first | (intro acts; rw [hr _ acts rfl rfl rfl]) | rw [hr _ _ rfl rfl rfl]
    exact Steps.refl _
  · show Q1_u Z w_ALLOW h0 n0 _ T3.heap _
    exact ⟨b1, rfl, N3, K3, sz_b1, fq3_0, fq3_1, fq3_2, fq3_3⟩
def Q6_o1 (Z : State) (o1 : Addr) (w_ALLOW : Addr) (h0 : Heap) (n0 : Nat) (v : Option Value) (h : Heap) (L : List Loc) : Prop := v = some (.ref w_ALLOW) ∧ Fr n0 L ∧ h = h0
set_option maxRecDepth 65536 in
set_option maxHeartbeats 40000000 in
theorem rm6_o1 (l : Launch) (Z : State) (a0 : Array Value) (hw : ∀ d ∈ tables_1, d.before a0 Z = true) (ws : List Jvm.Cond) (o1 : Addr) (w_ALLOW : Addr) (h0 : Heap) (n0 : Nat) (Z0 : n0 ≤ h0.size) (F_action_o1 : Fld Z h0 o1 "com/example/stanza_filter/stanzafilter/engine/Verdict" "action" "Lcom/example/stanza_filter/stanzafilter/engine/Action;" (.ref w_ALLOW)) :
    MetFree l (⟨"com/example/stanza_filter/stanzafilter/engine/Verdict", "action", "()Lcom/example/stanza_filter/stanzafilter/engine/Action;"⟩ : MethodName) (head1 (Jvm.Cond.code (⟨"com/example/stanza_filter/stanzafilter/engine/Verdict", "action", "()Lcom/example/stanza_filter/stanzafilter/engine/Action;"⟩ : MethodName) prog_16_method_6_code 1 (some (.object "com/example/stanza_filter/stanzafilter/engine/Action")) :: ws) ({ frames := 0, cells := 0, slots := 0, locals := 0 } : Room)) (fun a U => a = #[(.ref o1)] ∧ Z.Warmed39 U.vm ∧ U.heap = h0) (fun _ _ _ _ _ => True) (fun _ U o U' => ∃ v L, o = .returned v ∧ Q6_o1 Z o1 w_ALLOW h0 n0 v U'.heap L ∧ FrameEnd U o U' L ({ frames := 0, cells := 0, slots := 0, locals := 0 } : Room).cells ({ frames := 0, cells := 0, slots := 0, locals := 0 } : Room).slots) := by
  refine MetFree.of_bodySF (plainFor_of_name pn_6) hisR ?_
  intro p e s m args below meth c s₁ Bd hml0 hP hK
  obtain ⟨rfl, hZ, hh⟩ := hP
  have hx := Bd.exec
  have hby := Bd.bytes
  have hml : c.maxLocals = 1 := hml0
  have hown : s.vm.findClass "com/example/stanza_filter/stanzafilter/engine/Verdict" = some m.cls := findClass_of_methodNamed Bd.named
  have hnm := (name_of_methodNamed Bd.named Bd.method).1
  have X0 : Stand p l e ({ frames := 0, cells := 0, slots := 0, locals := 0 } : Room) s m #[(.ref o1)] below meth c s₁ [] 0 0 := Stand.of_body Bd
  have e0 : s₁.heap = h0 := by rw [← hh, Bd.state]; rfl
  have N0 := Fr.nil n0
  have pre0 : ∀ t, Steps p.tables e below (s₁.setTop (mkF m 0 #[.val (.ref o1)] [])) t → Steps p.tables e below (s₁.setTop (entryFrame m #[(.ref o1)] 1)) t := fun t k => castTop (by first | (simp [entryFrame, mkF, argsToLocals, Value.category]; done) | rfl) k
  obtain ⟨T1, X1, e1, st1⟩ := getF X0 hx hZ hown (host := "") (Or.inl (hw _ (List.mem_of_getElem? (i := 32) rfl))) Via.refl e0 F_action_o1 (g := (mkF m 1 #[.val (.ref o1)] [(.ref o1)])) rfl rfl (hb hby d6_1)
  obtain ⟨fs, hr, hrun, hended, hW, hsame⟩ := X1.leave (v := some (.ref w_ALLOW)) (fun h => by rw [Bd.returns] at h; cases h)
  refine ⟨_, _, pre0 _ ?_, hrun, hended, _, _, rfl, ?_, ⟨_, rfl⟩, hW, hsame.mono (by decide) (by decide)⟩
  · show Steps p.tables e below (s₁.setTop (mkF m 0 #[.val (.ref o1)] [])) _
    refine XS.aloadN X0.here hx rfl (hb hby d6_0) rfl rfl ?_
    show Steps p.tables e below (s₁.setTop (mkF m 1 #[.val (.ref o1)] [(.ref o1)])) _
    refine st1 _ ?_
    show Steps p.tables e below (T1.setTop (mkF m 4 #[.val (.ref o1)] [(.ref w_ALLOW)])) _
    jvm_step X1.here [X1.here.top, hx, (hb hby d6_4), X1.method', Bd.returns, Value.isRef, FieldType.isReference]
    first | (intro acts; rw [hr _ acts rfl rfl rfl]) | rw [hr _ _ rfl rfl rfl]
    exact Steps.refl _
  · show Q6_o1 Z o1 w_ALLOW h0 n0 _ T1.heap _
    rw [e1]
    exact ⟨rfl, N0, rfl⟩
def Q7_o1 (Z : State) (o1 : Addr) (h0 : Heap) (n0 : Nat) (v : Option Value) (h : Heap) (L : List Loc) : Prop := v = some .null ∧ Fr n0 L ∧ h = h0
set_option maxRecDepth 65536 in
set_option maxHeartbeats 40000000 in
theorem rm7_o1 (l : Launch) (Z : State) (a0 : Array Value) (hw : ∀ d ∈ tables_1, d.before a0 Z = true) (ws : List Jvm.Cond) (o1 : Addr) (h0 : Heap) (n0 : Nat) (Z0 : n0 ≤ h0.size) (F_list_o1 : Fld Z h0 o1 "com/example/stanza_filter/stanzafilter/engine/Verdict" "list" "Ljava/lang/String;" .null) :
    MetFree l (⟨"com/example/stanza_filter/stanzafilter/engine/Verdict", "list", "()Ljava/lang/String;"⟩ : MethodName) (head1 (Jvm.Cond.code (⟨"com/example/stanza_filter/stanzafilter/engine/Verdict", "list", "()Ljava/lang/String;"⟩ : MethodName) prog_16_method_7_code 1 (some (.object "java/lang/String")) :: ws) ({ frames := 0, cells := 0, slots := 0, locals := 0 } : Room)) (fun a U => a = #[(.ref o1)] ∧ Z.Warmed39 U.vm ∧ U.heap = h0) (fun _ _ _ _ _ => True) (fun _ U o U' => ∃ v L, o = .returned v ∧ Q7_o1 Z o1 h0 n0 v U'.heap L ∧ FrameEnd U o U' L ({ frames := 0, cells := 0, slots := 0, locals := 0 } : Room).cells ({ frames := 0, cells := 0, slots := 0, locals := 0 } : Room).slots) := by
  refine MetFree.of_bodySF (plainFor_of_name pn_7) hisR ?_
  intro p e s m args below meth c s₁ Bd hml0 hP hK
  obtain ⟨rfl, hZ, hh⟩ := hP
  have hx := Bd.exec
  have hby := Bd.bytes
  have hml : c.maxLocals = 1 := hml0
  have hown : s.vm.findClass "com/example/stanza_filter/stanzafilter/engine/Verdict" = some m.cls := findClass_of_methodNamed Bd.named
  have hnm := (name_of_methodNamed Bd.named Bd.method).1
  have X0 : Stand p l e ({ frames := 0, cells := 0, slots := 0, locals := 0 } : Room) s m #[(.ref o1)] below meth c s₁ [] 0 0 := Stand.of_body Bd
  have e0 : s₁.heap = h0 := by rw [← hh, Bd.state]; rfl
  have N0 := Fr.nil n0
  have pre0 : ∀ t, Steps p.tables e below (s₁.setTop (mkF m 0 #[.val (.ref o1)] [])) t → Steps p.tables e below (s₁.setTop (entryFrame m #[(.ref o1)] 1)) t := fun t k => castTop (by first | (simp [entryFrame, mkF, argsToLocals, Value.category]; done) | rfl) k
  obtain ⟨T1, X1, e1, st1⟩ := getF X0 hx hZ hown (host := "") (Or.inl (hw _ (List.mem_of_getElem? (i := 34) rfl))) Via.refl e0 F_list_o1 (g := (mkF m 1 #[.val (.ref o1)] [(.ref o1)])) rfl rfl (hb hby d7_1)
  obtain ⟨fs, hr, hrun, hended, hW, hsame⟩ := X1.leave (v := some .null) (fun h => by rw [Bd.returns] at h; cases h)
  refine ⟨_, _, pre0 _ ?_, hrun, hended, _, _, rfl, ?_, ⟨_, rfl⟩, hW, hsame.mono (by decide) (by decide)⟩
  · show Steps p.tables e below (s₁.setTop (mkF m 0 #[.val (.ref o1)] [])) _
    refine XS.aloadN X0.here hx rfl (hb hby d7_0) rfl rfl ?_
    show Steps p.tables e below (s₁.setTop (mkF m 1 #[.val (.ref o1)] [(.ref o1)])) _
    refine st1 _ ?_
    show Steps p.tables e below (T1.setTop (mkF m 4 #[.val (.ref o1)] [.null])) _
    jvm_step X1.here [X1.here.top, hx, (hb hby d7_4), X1.method', Bd.returns, Value.isRef, FieldType.isReference]
    first | (intro acts; rw [hr _ acts rfl rfl rfl]) | rw [hr _ _ rfl rfl rfl]
    exact Steps.refl _
  · show Q7_o1 Z o1 h0 n0 _ T1.heap _
    rw [e1]
    exact ⟨rfl, N0, rfl⟩
def Q8_o1 (Z : State) (o1 : Addr) (h0 : Heap) (n0 : Nat) (v : Option Value) (h : Heap) (L : List Loc) : Prop := v = some .null ∧ Fr n0 L ∧ h = h0
set_option maxRecDepth 65536 in
set_option maxHeartbeats 40000000 in
theorem rm8_o1 (l : Launch) (Z : State) (a0 : Array Value) (hw : ∀ d ∈ tables_1, d.before a0 Z = true) (ws : List Jvm.Cond) (o1 : Addr) (h0 : Heap) (n0 : Nat) (Z0 : n0 ≤ h0.size) (F_item_o1 : Fld Z h0 o1 "com/example/stanza_filter/stanzafilter/engine/Verdict" "item" "Lcom/example/stanza_filter/stanzafilter/engine/PrivacyItem;" .null) :
    MetFree l (⟨"com/example/stanza_filter/stanzafilter/engine/Verdict", "item", "()Lcom/example/stanza_filter/stanzafilter/engine/PrivacyItem;"⟩ : MethodName) (head1 (Jvm.Cond.code (⟨"com/example/stanza_filter/stanzafilter/engine/Verdict", "item", "()Lcom/example/stanza_filter/stanzafilter/engine/PrivacyItem;"⟩ : MethodName) prog_16_method_8_code 1 (some (.object "com/example/stanza_filter/stanzafilter/engine/PrivacyItem")) :: ws) ({ frames := 0, cells := 0, slots := 0, locals := 0 } : Room)) (fun a U => a = #[(.ref o1)] ∧ Z.Warmed39 U.vm ∧ U.heap = h0) (fun _ _ _ _ _ => True) (fun _ U o U' => ∃ v L, o = .returned v ∧ Q8_o1 Z o1 h0 n0 v U'.heap L ∧ FrameEnd U o U' L ({ frames := 0, cells := 0, slots := 0, locals := 0 } : Room).cells ({ frames := 0, cells := 0, slots := 0, locals := 0 } : Room).slots) := by
  refine MetFree.of_bodySF (plainFor_of_name pn_8) hisR ?_
  intro p e s m args below meth c s₁ Bd hml0 hP hK
  obtain ⟨rfl, hZ, hh⟩ := hP
  have hx := Bd.exec
  have hby := Bd.bytes
  have hml : c.maxLocals = 1 := hml0
  have hown : s.vm.findClass "com/example/stanza_filter/stanzafilter/engine/Verdict" = some m.cls := findClass_of_methodNamed Bd.named
  have hnm := (name_of_methodNamed Bd.named Bd.method).1
  have X0 : Stand p l e ({ frames := 0, cells := 0, slots := 0, locals := 0 } : Room) s m #[(.ref o1)] below meth c s₁ [] 0 0 := Stand.of_body Bd
  have e0 : s₁.heap = h0 := by rw [← hh, Bd.state]; rfl
  have N0 := Fr.nil n0
  have pre0 : ∀ t, Steps p.tables e below (s₁.setTop (mkF m 0 #[.val (.ref o1)] [])) t → Steps p.tables e below (s₁.setTop (entryFrame m #[(.ref o1)] 1)) t := fun t k => castTop (by first | (simp [entryFrame, mkF, argsToLocals, Value.category]; done) | rfl) k
  obtain ⟨T1, X1, e1, st1⟩ := getF X0 hx hZ hown (host := "") (Or.inl (hw _ (List.mem_of_getElem? (i := 36) rfl))) Via.refl e0 F_item_o1 (g := (mkF m 1 #[.val (.ref o1)] [(.ref o1)])) rfl rfl (hb hby d8_1)
  obtain ⟨fs, hr, hrun, hended, hW, hsame⟩ := X1.leave (v := some .null) (fun h => by rw [Bd.returns] at h; cases h)
  refine ⟨_, _, pre0 _ ?_, hrun, hended, _, _, rfl, ?_, ⟨_, rfl⟩, hW, hsame.mono (by decide) (by decide)⟩
  · show Steps p.tables e below (s₁.setTop (mkF m 0 #[.val (.ref o1)] [])) _
    refine XS.aloadN X0.here hx rfl (hb hby d8_0) rfl rfl ?_
    show Steps p.tables e below (s₁.setTop (mkF m 1 #[.val (.ref o1)] [(.ref o1)])) _
    refine st1 _ ?_
    show Steps p.tables e below (T1.setTop (mkF m 4 #[.val (.ref o1)] [.null])) _
    jvm_step X1.here [X1.here.top, hx, (hb hby d8_4), X1.method', Bd.returns, Value.isRef, FieldType.isReference]
    first | (intro acts; rw [hr _ acts rfl rfl rfl]) | rw [hr _ _ rfl rfl rfl]
    exact Steps.refl _
  · show Q8_o1 Z o1 h0 n0 _ T1.heap _
    rw [e1]
    exact ⟨rfl, N0, rfl⟩
def Q0_all (Z : State) (w_ALLOW : Addr) (h0 : Heap) (n0 : Nat) (v : Option Value) (h : Heap) (L : List Loc) : Prop := v = some (.int 1) ∧ Fr n0 L ∧ True
set_option maxRecDepth 65536 in
set_option maxHeartbeats 40000000 in
theorem rm0_all (l : Launch) (Z : State) (a0 : Array Value) (hw : ∀ d ∈ tables_1, d.before a0 Z = true) (ws : List Jvm.Cond) (w_ALLOW : Addr) (h0 : Heap) (n0 : Nat) (Z0 : n0 ≤ h0.size) (S_ALLOW : Sta Z h0 "com/example/stanza_filter/stanzafilter/engine/Action" "ALLOW" "Lcom/example/stanza_filter/stanzafilter/engine/Action;" (.ref w_ALLOW)) :
    MetFree l x (head1 (Jvm.Cond.code x code maxLocals ret :: ws) room_1) (fun a U => a = #[] ∧ Z.Warmed39 U.vm ∧ U.heap = h0) (fun _ _ _ _ _ => True) (fun _ U o U' => ∃ v L, o = .returned v ∧ Q0_all Z w_ALLOW h0 n0 v U'.heap L ∧ ReturnedEndW U o U' L room_1.cells room_1.slots) := by
  refine MetFree.of_bodySF (plainFor_of_name pn_0) hisR ?_
  intro p e s m args below meth c s₁ Bd hml0 hP hK
  obtain ⟨rfl, hZ, hh⟩ := hP
  have hx := Bd.exec
  have hby := Bd.bytes
  have hml : c.maxLocals = 1 := hml0
  have hown : s.vm.findClass "com/example/stanza_filter/stanzafilter/engine/VerdictNoListPinLaw" = some m.cls := findClass_of_methodNamed Bd.named
  have hnm := (name_of_methodNamed Bd.named Bd.method).1
  have X0 : Stand p l e room_1 s m #[] below meth c s₁ [] 0 0 := Stand.of_body Bd
  have e0 : s₁.heap = h0 := by rw [← hh, Bd.state]; rfl
  have N0 := Fr.nil n0
  have pre0 : ∀ t, Steps p.tables e below (s₁.setTop (mkF m 0 #[.unset] [])) t → Steps p.tables e below (s₁.setTop (entryFrame m #[] maxLocals)) t := fun t k => castTop (by first | (simp [entryFrame, mkF, argsToLocals, Value.category, maxLocals]; done) | rfl) k
  have hZ2 : Z.Warmed39 s₁.vm := wtrans hZ X0.warmed
  have hown2 : s₁.vm.findClass "com/example/stanza_filter/stanzafilter/engine/VerdictNoListPinLaw" = some m.cls := by rw [X0.warmed.alike.findClass]; exact hown
  have hS2 : s.Since s₁.vm s₁.heap.size := X0.warmed.since _
  have hk2 : s₁.heap.size ≤ h0.size := by rw [e0]; exact Nat.le_refl _
  have XR2 : Stand p l e _ (s.setVm s₁.vm) m _ below meth c s₁ _ _ _ := X0.retabled X0.warmed.wide
  obtain ⟨_, _, ⟨T1, L1, k1, n1⟩, -, X1, hSq1, hgq1, ⟨Lc1, hQ1, l1, y1, z1⟩, st1⟩ := callSS XR2 hx (y := (⟨"com/example/stanza_filter/stanzafilter/engine/Verdict", "noList", "()Lcom/example/stanza_filter/stanzafilter/engine/Verdict;"⟩ : MethodName)) hown2 (mvT hZ2 (hw _ (List.mem_of_getElem? (i := 0) rfl))) (mvT hZ2 (hw _ (List.mem_of_getElem? (i := 1) rfl))) (mvT hZ2 (hw _ (List.mem_of_getElem? (i := 2) rfl))) (mvT hZ2 (hw _ (List.mem_of_getElem? (i := 3) rfl))) (by decide) (backOfS (W := 0) (rm1_u l Z a0 hw [] w_ALLOW h0 n0 Z0 S_ALLOW) hZ2 (hw _ (List.mem_of_getElem? (i := 3) rfl)) (hw _ (List.mem_of_getElem? (i := 2) rfl)) (by decide) (by decide)) (g := (mkF m 0 #[.unset] [])) rfl (by rw [hml]; rfl) (argsL := []) (rest := []) (lenOf pd___Lcom_example_stanza_filter_stanzafilter_engine_Verdict_ rfl) rfl (by show 2 * 0 + _ ≤ _; exact Nat.le_of_eq rfl) (hb hby at_0) (fun _ _ => ⟨rfl, e0, (by decide : 0 + 3 ≤ _), (by decide : 0 + 31 ≤ _)⟩)
  dsimp only [Pt.U, Pt.locs, Pt.cells, Pt.slots] at X1 l1 y1 z1 st1 hQ1 hSq1 hgq1
  subst l1 y1 z1
  obtain ⟨b1c1, rfl, N1q, Kq1, s_b1c1, fq1_0, fq1_1, fq1_2, fq1_3⟩ := hQ1
  have N1 := Fr.app N0 N1q
  have hS1 := foldS (T := s₁) hS2 (own_leT e0 hk2) hSq1 hgq1
  have hk1 : T1.heap.size ≤ T1.heap.size := Nat.le_refl _
  have hZ1 : Z.Warmed39 (s.setVm T1.vm).vm := State.Warmed39.trans (t := s.setVm _) hZ2 hSq1.1
  have hown1 : (s.setVm T1.vm).vm.findClass "com/example/stanza_filter/stanzafilter/engine/VerdictNoListPinLaw" = some m.cls := by rw [show (s.setVm T1.vm).vm = T1.vm from rfl, hSq1.1.alike.findClass]; exact hown2
  have XW1 : Stand p l e _ (s.setVm T1.vm) m _ below meth c T1 _ _ _ := X1
  have g_b1c1 : n0 ≤ b1c1 := Nat.le_trans Z0 s_b1c1
  have sz_b1c1 : h0.size ≤ b1c1 := s_b1c1
  have K1 : Keep h0 T1.heap [] := (Keep.refl h0 []).trans Kq1 all0
  obtain ⟨cq3, kq3, q3a, q3b, q3c⟩ := isOf hZ1 rfl fq1_0
  obtain ⟨_, _, ⟨T3, L3, k3, n3⟩, -, X3, ⟨Lc3, hQ3, l3, y3, z3⟩, st3⟩ := XW1.virtualBack hx (y := (⟨"com/example/stanza_filter/stanzafilter/engine/Verdict", "action", "()Lcom/example/stanza_filter/stanzafilter/engine/Action;"⟩ : MethodName)) (z := (⟨"com/example/stanza_filter/stanzafilter/engine/Verdict", "action", "()Lcom/example/stanza_filter/stanzafilter/engine/Action;"⟩ : MethodName)) hown1 (mvT hZ1 (hw _ (List.mem_of_getElem? (i := 38) rfl))) (mvT hZ1 (hw _ (List.mem_of_getElem? (i := 39) rfl))) (notFace_of_selects (args := #[]) (mvT hZ1 (hw _ (List.mem_of_getElem? (i := 41) rfl)))) (mvT hZ1 (hw _ (List.mem_of_getElem? (i := 41) rfl))) (mvT hZ1 (hw _ (List.mem_of_getElem? (i := 40) rfl))) (by decide) (backOf (W := 0) (rm6_o1 l Z a0 hw [] b1c1 w_ALLOW T1.heap n0 (Nat.le_trans Z0 K1.1) fq1_1) hZ1 (hw _ (List.mem_of_getElem? (i := 42) rfl)) (hw _ (List.mem_of_getElem? (i := 2) rfl)) (by decide) (by decide)) q3a q3c (g := (mkF m 11 #[.val (.ref b1c1)] [(.ref b1c1)])) rfl (by rw [hml]; rfl) (Steps.refl _) (argsL := []) (rest := []) (lenOf pd___Lcom_example_stanza_filter_stanzafilter_engine_Action_ rfl) rfl (by show 2 * 0 + _ ≤ _; exact Nat.le_of_eq rfl) (hb hby at_11) (fun _ _ => ⟨rfl, rfl, (by decide : 3 + 0 ≤ _), (by decide : 31 + 0 ≤ _)⟩)
  dsimp only [Pt.U, Pt.locs, Pt.cells, Pt.slots] at X3 l3 y3 z3 st3 hQ3
  subst l3 y3 z3
  obtain ⟨rfl, N3q, e3⟩ := hQ3
  have N3 := Fr.app N1 N3q
  obtain ⟨T4, X4, e4, st4⟩ := getS2 X3 hx hZ1 hown1 (host := "") (Or.inl (hw _ (List.mem_of_getElem? (i := 43) rfl))) Via.refl e3 (own_sta_keep S_ALLOW K1) (g := (mkF m 14 #[.val (.ref b1c1)] [(.ref w_ALLOW)])) rfl (hb hby at_14)
  obtain ⟨cq5, kq5, q5a, q5b, q5c⟩ := isOf hZ1 e4 fq1_0
  obtain ⟨_, _, ⟨T5, L5, k5, n5⟩, -, X5, ⟨Lc5, hQ5, l5, y5, z5⟩, st5⟩ := X4.virtualBack hx (y := (⟨"com/example/stanza_filter/stanzafilter/engine/Verdict", "list", "()Ljava/lang/String;"⟩ : MethodName)) (z := (⟨"com/example/stanza_filter/stanzafilter/engine/Verdict", "list", "()Ljava/lang/String;"⟩ : MethodName)) hown1 (mvT hZ1 (hw _ (List.mem_of_getElem? (i := 44) rfl))) (mvT hZ1 (hw _ (List.mem_of_getElem? (i := 45) rfl))) (notFace_of_selects (args := #[]) (mvT hZ1 (hw _ (List.mem_of_getElem? (i := 47) rfl)))) (mvT hZ1 (hw _ (List.mem_of_getElem? (i := 47) rfl))) (mvT hZ1 (hw _ (List.mem_of_getElem? (i := 46) rfl))) (by decide) (backOf (W := 0) (rm7_o1 l Z a0 hw [] b1c1 T1.heap n0 (Nat.le_trans Z0 K1.1) fq1_2) hZ1 (hw _ (List.mem_of_getElem? (i := 48) rfl)) (hw _ (List.mem_of_getElem? (i := 2) rfl)) (by decide) (by decide)) q5a q5c (g := (mkF m 21 #[.val (.ref b1c1)] [(.ref b1c1)])) rfl (by rw [hml]; rfl) (Steps.refl _) (argsL := []) (rest := []) (lenOf pd___Ljava_lang_String_ rfl) rfl (by show 2 * 0 + _ ≤ _; exact Nat.le_of_eq rfl) (hb hby at_21) (fun _ _ => ⟨rfl, e4, (by decide : 3 + 0 ≤ _), (by decide : 31 + 0 ≤ _)⟩)
  dsimp only [Pt.U, Pt.locs, Pt.cells, Pt.slots] at X5 l5 y5 z5 st5 hQ5
  subst l5 y5 z5
  obtain ⟨rfl, N5q, e5⟩ := hQ5
  have N5 := Fr.app N3 N5q
  obtain ⟨cq6, kq6, q6a, q6b, q6c⟩ := isOf hZ1 e5 fq1_0
  obtain ⟨_, _, ⟨T6, L6, k6, n6⟩, -, X6, ⟨Lc6, hQ6, l6, y6, z6⟩, st6⟩ := X5.virtualBack hx (y := (⟨"com/example/stanza_filter/stanzafilter/engine/Verdict", "item", "()Lcom/example/stanza_filter/stanzafilter/engine/PrivacyItem;"⟩ : MethodName)) (z := (⟨"com/example/stanza_filter/stanzafilter/engine/Verdict", "item", "()Lcom/example/stanza_filter/stanzafilter/engine/PrivacyItem;"⟩ : MethodName)) hown1 (mvT hZ1 (hw _ (List.mem_of_getElem? (i := 49) rfl))) (mvT hZ1 (hw _ (List.mem_of_getElem? (i := 50) rfl))) (notFace_of_selects (args := #[]) (mvT hZ1 (hw _ (List.mem_of_getElem? (i := 52) rfl)))) (mvT hZ1 (hw _ (List.mem_of_getElem? (i := 52) rfl))) (mvT hZ1 (hw _ (List.mem_of_getElem? (i := 51) rfl))) (by decide) (backOf (W := 0) (rm8_o1 l Z a0 hw [] b1c1 T1.heap n0 (Nat.le_trans Z0 K1.1) fq1_3) hZ1 (hw _ (List.mem_of_getElem? (i := 53) rfl)) (hw _ (List.mem_of_getElem? (i := 2) rfl)) (by decide) (by decide)) q6a q6c (g := (mkF m 28 #[.val (.ref b1c1)] [(.ref b1c1)])) rfl (by rw [hml]; rfl) (Steps.refl _) (argsL := []) (rest := []) (lenOf pd___Lcom_example_stanza_filter_stanzafilter_engine_PrivacyItem_ rfl) rfl (by show 2 * 0 + _ ≤ _; exact Nat.le_of_eq rfl) (hb hby at_28) (fun _ _ => ⟨rfl, e5, (by decide : 3 + 0 ≤ _), (by decide : 31 + 0 ≤ _)⟩)
  dsimp only [Pt.U, Pt.locs, Pt.cells, Pt.slots] at X6 l6 y6 z6 st6 hQ6
  subst l6 y6 z6
  obtain ⟨rfl, N6q, e6⟩ := hQ6
  have N6 := Fr.app N5 N6q
  obtain ⟨fs, hr, hrun, hended, hend⟩ := Stand.leaveW (s := s) X6 (v := some (.int 1)) hS1 (own_leT e6 hk1) (fun h => by rw [Bd.returns] at h; cases h)
  refine ⟨_, _, pre0 _ ?_, hrun, hended, _, _, rfl, ?_, hend.1, hend.2.1, hend.2.2.1, hend.2.2.2.mono (by decide) (by decide)⟩
  · show Steps p.tables e below (s₁.setTop (mkF m 0 #[.unset] [])) _
    refine st1.trans ?_
    show Steps p.tables e below (T1.setTop (mkF m 3 #[.unset] [(.ref b1c1)])) _
    refine XS.astoreN XW1.here hx rfl (hb hby at_3) rfl rfl (l' := #[.val (.ref b1c1)]) rfl ?_
    show Steps p.tables e below (T1.setTop (mkF m 4 #[.val (.ref b1c1)] [])) _
    refine XS.aloadN XW1.here hx rfl (hb hby at_4) rfl rfl ?_
    show Steps p.tables e below (T1.setTop (mkF m 5 #[.val (.ref b1c1)] [(.ref b1c1)])) _
    refine XS.ifnonnullYes XW1.here hx rfl (pc0 := 5) (pc' := 10) rfl (hb hby at_5) rfl (by decide) (by decide) ?_
    show Steps p.tables e below (T1.setTop (mkF m 10 #[.val (.ref b1c1)] [])) _
    refine XS.aloadN XW1.here hx rfl (hb hby at_10) rfl rfl ?_
    show Steps p.tables e below (T1.setTop (mkF m 11 #[.val (.ref b1c1)] [(.ref b1c1)])) _
    refine st3.trans ?_
    show Steps p.tables e below (T3.setTop (mkF m 14 #[.val (.ref b1c1)] [(.ref w_ALLOW)])) _
    refine st4 _ ?_
    show Steps p.tables e below (T4.setTop (mkF m 17 #[.val (.ref b1c1)] [(.ref w_ALLOW), (.ref w_ALLOW)])) _
    refine Jvm.RoadKit.acmp (g := (mkF m 17 #[.val (.ref b1c1)] [(.ref w_ALLOW), (.ref w_ALLOW)])) X4 hx rfl rfl rfl (pc0 := 17) (pc' := 20) (same := true) rfl (hb hby at_17) rfl (decide_eq_true rfl) (by decide) (by decide) ?_
    show Steps p.tables e below (T4.setTop (mkF m 20 #[.val (.ref b1c1)] [])) _
    refine XS.aloadN X4.here hx rfl (hb hby at_20) rfl rfl ?_
    show Steps p.tables e below (T4.setTop (mkF m 21 #[.val (.ref b1c1)] [(.ref b1c1)])) _
    refine st5.trans ?_
    show Steps p.tables e below (T5.setTop (mkF m 24 #[.val (.ref b1c1)] [.null])) _
    refine XS.ifnonnullNo X5.here hx rfl (hb hby at_24) rfl ?_
    show Steps p.tables e below (T5.setTop (mkF m 27 #[.val (.ref b1c1)] [])) _
    refine XS.aloadN X5.here hx rfl (hb hby at_27) rfl rfl ?_
    show Steps p.tables e below (T5.setTop (mkF m 28 #[.val (.ref b1c1)] [(.ref b1c1)])) _
    refine st6.trans ?_
    show Steps p.tables e below (T6.setTop (mkF m 31 #[.val (.ref b1c1)] [.null])) _
    refine XS.ifnonnullNo X6.here hx rfl (hb hby at_31) rfl ?_
    show Steps p.tables e below (T6.setTop (mkF m 34 #[.val (.ref b1c1)] [])) _
    refine XS.iconst X6.here hx rfl (hb hby at_34) ?_
    show Steps p.tables e below (T6.setTop (mkF m 35 #[.val (.ref b1c1)] [(.int 1)])) _
    refine XS.goto X6.here hx rfl (pc0 := 35) (pc' := 39) rfl (hb hby at_35) (by decide) (by decide) ?_
    show Steps p.tables e below (T6.setTop (mkF m 39 #[.val (.ref b1c1)] [(.int 1)])) _
    exact retN X6 hx (t := .boolean) Bd.returns (by simp) (hb hby at_39) hr
  · show Q0_all Z w_ALLOW h0 n0 _ T6.heap _
    rw [e6]
    exact ⟨rfl, N6, trivial⟩
set_option maxRecDepth 65536 in
set_option maxHeartbeats 40000000 in
theorem comes_1 {Post : Tables → Env → Array Value → State → Outcome → State → Prop} (hpost : ∀ tb e args s v u, (limb_1_1.after args s (.returned v) u = true ∧ limb_1_2.after args s (.returned v) u = true ∧ True) → ReturnedEndW s (.returned v) u (Jvm.fieldLocs frame_1_writes args s ++ Jvm.arrayLocs frame_1_arrays args s ++ Jvm.staticLocs frame_1_statics s) 16 1152 → Post tb e args s (.returned v) u) :
    ArmFor flags0 classFile x code maxLocals ret World_1 tables_1 room_1 Calls_1 rest_1 Pre_1 Post := by
  intro l hfl _ _ p e ha hc hk s m args below hf hA hF happ hP
  obtain ⟨hcalls, hrest, hpre⟩ := hP
  obtain ⟨-, -, -, hnamed, -, -, -, hat⟩ := (Spec.applies_iff hf).mp happ
  obtain ⟨hg, hn⟩ := and_e (Cond.before_iff.mp (show (Jvm.Cond.and given_1 narrow_1).before args s = true from hpre))
  obtain rfl : args = #[] := by
    have hs : args.size = 0 := by simpa [Cond.value, given_1] using hg
    exact Array.eq_empty_of_size_eq_zero hs
  have hw := fun d (hd : d ∈ tables_1) => atoms_spec (ws := Jvm.Cond.code x code maxLocals ret :: tables_1) hat d (List.mem_cons_of_mem _ hd)
  have hfit : Fit s := fun {y c} hc i hi => by
    obtain ⟨ha, rfl⟩ := Array.getElem?_eq_some_iff.mp hc
    have q := List.all_eq_true.mp ((Array.all_eq_true_iff_forall_mem.mp hF) _ (Array.getElem_mem ha)) i (List.mem_range.mpr hi)
    simpa [Array.getElem?_eq_getElem hi] using q
  obtain ⟨w_ALLOW, ev_ALLOW⟩ := exa_v hn
  have E_w_ALLOW : Exa s s.heap w_ALLOW "com/example/stanza_filter/stanzafilter/engine/Action" := Exa.start ev_ALLOW hn
  have S_ALLOW : Sta s s.heap "com/example/stanza_filter/stanzafilter/engine/Action" "ALLOW" "Lcom/example/stanza_filter/stanzafilter/engine/Action;" (.ref w_ALLOW) := Sta.start ev_ALLOW (Or.inr ⟨(hw _ (List.mem_of_getElem? (i := 7) rfl)), (hw _ (List.mem_of_getElem? (i := 8) rfl))⟩)
  obtain ⟨n, o, h1, h2, h3, _, L, rfl, ⟨rfl, N, -⟩, hq⟩ := rm0_all l s _ hw tables_1 w_ALLOW s.heap s.heap.size (Nat.le_refl _) S_ALLOW p e ha hc hk s m _ below hf ((Spec.applies_iff_loose hf).mp happ).1 ⟨rfl, State.Warmed39.refl s, rfl⟩ trivial
  exact ⟨n, _, h1, h2, h3, hpost _ _ _ _ _ _ ⟨Cond.after_iff.mpr rfl, Cond.after_iff.mpr (eq_i res_at (Term.int_eval (1)) rfl), trivial⟩ ⟨hq.1, hq.2.1, hq.2.2.1, (hq.2.2.2.sift fun y hy => Or.inr (N y hy)).mono (by decide) (by decide)⟩⟩
theorem main_1_1 : Claimed_1_1 := comes_1 fun _ _ _ _ _ _ h hF => ⟨h.1, hF⟩
theorem main_1_2 : Claimed_1_2 := comes_1 fun _ _ _ _ _ _ h hF => ⟨h.2.1, hF⟩
end Jvm.Pilot.@@N@@
namespace Jvm.Pilot.@@N@@
open Jvm Jvm.ClassFile Sem Op Lib Jvm.Free Jvm.Stand Jvm.Pilot.@@N@@.Jvm.D
/-! MADE BY PROGRAM (witnessworld.py) out of the Statement's table words and the real class files: 18 classes; the members and pool entries that the words name. The judged class is class 1, her method 1. -/
namespace start1
open Jvm.ClassFile
def u (s : String) : CpInfo := .utf8 (stringToUtf16 s)
/-- a pool by its gaps: so many unusable entries, then the entry; so many at the end -/
def gap : Nat → List CpInfo → List CpInfo
  | 0, r => r
  | n + 1, r => .unusable :: gap n r
def poolList (es : List (Nat × CpInfo)) (last : Nat) : List CpInfo := es.foldr (fun e r => gap e.1 (e.2 :: r)) (gap last [])
def pool (es : List (Nat × CpInfo)) (last : Nat) : Array CpInfo := ⟨poolList es last⟩
def fileOf (pool : Array CpInfo) (this : Nat) (attrs : Array Attribute := #[]) (ms : Array MethodInfo := #[]) (fl : Nat := 33) (sup : Nat := 0) (ifs : Array Nat := #[]) (fds : Array FieldInfo := #[]) : ClassFile where
  minorVersion := 0
  majorVersion := 65
  constantPool := pool
  accessFlags := fl
  thisClass := this
  superClass := sup
  interfaces := ifs
  fields := fds
  methods := ms
  attributes := attrs
def plain (name : String) (sup : Option ClassId) : Class where
  name := name
  kind := .ordinary
  loader := none
  accessFlags := 33
  super := sup
  interfaces := #[]
  cf := none
  fields := #[]
  methods := #[]
  instanceTypes := #[]
  staticTypes := #[]
  resolved := #[]
  callSites := []
  init := .initialized
  statics := none
  mirror := none

def pool0 : Array CpInfo := pool [(5, u "<init>"), (0, u "()V"), (1, .class_ 10), (1, u "java/lang/Object")] 113

def k0c0 : Code := { maxStack := 0, maxLocals := 1, code := object_method_1_code, exceptionTable := #[], attributes := #[] }
def k0m0 : Method := { name := "<init>", desc := "()V", sig := { parameters := [], returnType := none }, accessFlags := 1, code := some k0c0 }
/-- java/lang/Object -/
def k0 : Class := { plain "java/lang/Object" none with
  accessFlags := 33
  interfaces := #[]
  cf := some (fileOf pool0 8 #[] #[{ accessFlags := 1, nameIndex := 5, descriptorIndex := 6, attributes := #[] }] 33 0 #[] #[])
  fields := #[]
  methods := #[k0m0]
  instanceTypes := #[]
  staticTypes := #[]
  resolved := Array.replicate 124 none
  statics := none }

def pool1 : Array CpInfo := pool [(2, .class_ 4), (1, u "java/lang/Object"), (0, u "<init>"), (0, u "()V"), (0, .methodref 8 9), (0, .class_ 10), (0, .nameAndType 11 12), (0, u "com/example/stanza_filter/stanzafilter/engine/Verdict"), (0, u "noList"), (0, u "()Lcom/example/stanza_filter/stanzafilter/engine/Verdict;"), (0, .methodref 8 14), (0, .nameAndType 15 16), (0, u "action"), (0, u "()Lcom/example/stanza_filter/stanzafilter/engine/Action;"), (0, .fieldref 18 19), (0, .class_ 20), (0, .nameAndType 21 22), (0, u "com/example/stanza_filter/stanzafilter/engine/Action"), (0, u "ALLOW"), (0, u "Lcom/example/stanza_filter/stanzafilter/engine/Action;"), (0, .methodref 8 24), (0, .nameAndType 25 26), (0, u "list"), (0, u "()Ljava/lang/String;"), (0, .methodref 8 28), (0, .nameAndType 29 30), (0, u "item"), (0, u "()Lcom/example/stanza_filter/stanzafilter/engine/PrivacyItem;"), (0, .class_ 32), (0, u "com/example/stanza_filter/stanzafilter/engine/VerdictNoListPinLaw"), (2, u "law"), (0, u "()Z")] 3

def k1m0 : Method := { name := "<init>", desc := "()V", sig := { parameters := [], returnType := none }, accessFlags := 2, code := none }
def k1c1 : Code := { maxStack := 2, maxLocals := 1, code := code, exceptionTable := #[], attributes := #[] }
def k1m1 : Method := { name := "law", desc := "()Z", sig := { parameters := [], returnType := some .boolean }, accessFlags := 9, code := some k1c1 }
/-- com/example/stanza_filter/stanzafilter/engine/VerdictNoListPinLaw -/
def k1 : Class := { plain "com/example/stanza_filter/stanzafilter/engine/VerdictNoListPinLaw" (some 0) with
  accessFlags := 49
  interfaces := #[]
  cf := some (fileOf pool1 31 #[] #[{ accessFlags := 2, nameIndex := 5, descriptorIndex := 6, attributes := #[] }, { accessFlags := 9, nameIndex := 35, descriptorIndex := 36, attributes := #[] }] 49 2 #[] #[])
  fields := #[]
  methods := #[k1m0, k1m1]
  instanceTypes := #[]
  staticTypes := #[]
  resolved := Array.replicate 40 none
  statics := none }

def pool2 : Array CpInfo := pool [(1, .methodref 2 3), (0, .class_ 4), (0, .nameAndType 5 6), (0, u "java/lang/Object"), (0, u "<init>"), (0, u "()V"), (0, .class_ 8), (0, u "java/lang/Record")] 13

def k2c0 : Code := { maxStack := 1, maxLocals := 1, code := jdk_30_method_1_code, exceptionTable := #[], attributes := #[] }
def k2m0 : Method := { name := "<init>", desc := "()V", sig := { parameters := [], returnType := none }, accessFlags := 4, code := some k2c0 }
/-- java/lang/Record -/
def k2 : Class := { plain "java/lang/Record" (some 0) with
  accessFlags := 1057
  interfaces := #[]
  cf := some (fileOf pool2 7 #[] #[{ accessFlags := 4, nameIndex := 5, descriptorIndex := 6, attributes := #[] }] 1057 2 #[] #[])
  fields := #[]
  methods := #[k2m0]
  instanceTypes := #[]
  staticTypes := #[]
  resolved := Array.replicate 22 none
  statics := none }

def pool3 : Array CpInfo := pool [(1, .methodref 2 3), (0, .class_ 4), (0, .nameAndType 5 6), (0, u "java/lang/Record"), (0, u "<init>"), (0, u "()V"), (0, .string 8), (0, u "action"), (0, .methodref 10 11), (0, .class_ 12), (0, .nameAndType 13 14), (0, u "java/util/Objects"), (0, u "requireNonNull"), (0, u "(Ljava/lang/Object;Ljava/lang/String;)Ljava/lang/Object;"), (0, .fieldref 16 17), (0, .class_ 18), (0, .nameAndType 8 19), (0, u "com/example/stanza_filter/stanzafilter/engine/Verdict"), (0, u "Lcom/example/stanza_filter/stanzafilter/engine/Action;"), (0, .fieldref 16 21), (0, .nameAndType 22 23), (0, u "list"), (0, u "Ljava/lang/String;"), (0, .fieldref 16 25), (0, .nameAndType 26 27), (0, u "item"), (0, u "Lcom/example/stanza_filter/stanzafilter/engine/PrivacyItem;"), (0, .fieldref 29 30), (0, .class_ 31), (0, .nameAndType 32 19), (0, u "com/example/stanza_filter/stanzafilter/engine/Action"), (0, u "ALLOW"), (0, .methodref 16 34), (0, .nameAndType 5 35), (0, u "(Lcom/example/stanza_filter/stanzafilter/engine/Action;Ljava/lang/String;Lcom/example/stanza_filter/stanzafilter/engine/PrivacyItem;)V"), (15, u "noList"), (0, u "()Lcom/example/stanza_filter/stanzafilter/engine/Verdict;"), (0, u "()Ljava/lang/String;"), (2, u "()Lcom/example/stanza_filter/stanzafilter/engine/Action;"), (0, u "()Lcom/example/stanza_filter/stanzafilter/engine/PrivacyItem;")] 22

def k3c0 : Code := { maxStack := 2, maxLocals := 4, code := prog_16_method_1_code, exceptionTable := #[], attributes := #[] }
def k3m0 : Method := { name := "<init>", desc := "(Lcom/example/stanza_filter/stanzafilter/engine/Action;Ljava/lang/String;Lcom/example/stanza_filter/stanzafilter/engine/PrivacyItem;)V", sig := { parameters := [(.object "com/example/stanza_filter/stanzafilter/engine/Action"), (.object "java/lang/String"), (.object "com/example/stanza_filter/stanzafilter/engine/PrivacyItem")], returnType := none }, accessFlags := 1, code := some k3c0 }
def k3c1 : Code := { maxStack := 5, maxLocals := 0, code := prog_16_method_2_code, exceptionTable := #[], attributes := #[] }
def k3m1 : Method := { name := "noList", desc := "()Lcom/example/stanza_filter/stanzafilter/engine/Verdict;", sig := { parameters := [], returnType := some (.object "com/example/stanza_filter/stanzafilter/engine/Verdict") }, accessFlags := 9, code := some k3c1 }
def k3c2 : Code := { maxStack := 1, maxLocals := 1, code := prog_16_method_6_code, exceptionTable := #[], attributes := #[] }
def k3m2 : Method := { name := "action", desc := "()Lcom/example/stanza_filter/stanzafilter/engine/Action;", sig := { parameters := [], returnType := some (.object "com/example/stanza_filter/stanzafilter/engine/Action") }, accessFlags := 1, code := some k3c2 }
def k3c3 : Code := { maxStack := 1, maxLocals := 1, code := prog_16_method_7_code, exceptionTable := #[], attributes := #[] }
def k3m3 : Method := { name := "list", desc := "()Ljava/lang/String;", sig := { parameters := [], returnType := some (.object "java/lang/String") }, accessFlags := 1, code := some k3c3 }
def k3c4 : Code := { maxStack := 1, maxLocals := 1, code := prog_16_method_8_code, exceptionTable := #[], attributes := #[] }
def k3m4 : Method := { name := "item", desc := "()Lcom/example/stanza_filter/stanzafilter/engine/PrivacyItem;", sig := { parameters := [], returnType := some (.object "com/example/stanza_filter/stanzafilter/engine/PrivacyItem") }, accessFlags := 1, code := some k3c4 }
/-- com/example/stanza_filter/stanzafilter/engine/Verdict -/
def k3 : Class := { plain "com/example/stanza_filter/stanzafilter/engine/Verdict" (some 2) with
  accessFlags := 49
  interfaces := #[]
  cf := some (fileOf pool3 16 #[] #[{ accessFlags := 1, nameIndex := 5, descriptorIndex := 35, attributes := #[] }, { accessFlags := 9, nameIndex := 51, descriptorIndex := 52, attributes := #[] }, { accessFlags := 1, nameIndex := 8, descriptorIndex := 56, attributes := #[] }, { accessFlags := 1, nameIndex := 22, descriptorIndex := 53, attributes := #[] }, { accessFlags := 1, nameIndex := 26, descriptorIndex := 57, attributes := #[] }] 49 2 #[] #[{ accessFlags := 18, nameIndex := 8, descriptorIndex := 19, attributes := #[] }, { accessFlags := 18, nameIndex := 22, descriptorIndex := 23, attributes := #[] }, { accessFlags := 18, nameIndex := 26, descriptorIndex := 27, attributes := #[] }])
  fields := #[{ name := "action", type := (.object "com/example/stanza_filter/stanzafilter/engine/Action"), accessFlags := 18, slot := 0, constantValue := 0 }, { name := "list", type := (.object "java/lang/String"), accessFlags := 18, slot := 1, constantValue := 0 }, { name := "item", type := (.object "com/example/stanza_filter/stanzafilter/engine/PrivacyItem"), accessFlags := 18, slot := 2, constantValue := 0 }]
  methods := #[k3m0, k3m1, k3m2, k3m3, k3m4]
  instanceTypes := #[(.object "com/example/stanza_filter/stanzafilter/engine/Action"), (.object "java/lang/String"), (.object "com/example/stanza_filter/stanzafilter/engine/PrivacyItem")]
  staticTypes := #[]
  resolved := Array.replicate 80 none
  statics := none }

def pool4 : Array CpInfo := pool [(1, .class_ 2), (0, u "java/lang/constant/Constable"), (0, .class_ 4), (0, u "java/lang/Object")] 6

/-- java/lang/constant/Constable -/
def k4 : Class := { plain "java/lang/constant/Constable" (some 0) with
  accessFlags := 1537
  interfaces := #[]
  cf := some (fileOf pool4 1 #[] #[] 1537 3 #[] #[])
  fields := #[]
  methods := #[]
  instanceTypes := #[]
  staticTypes := #[]
  resolved := Array.replicate 11 none
  statics := none }

def pool5 : Array CpInfo := pool [(1, .class_ 2), (0, u "java/lang/Comparable"), (0, .class_ 4), (0, u "java/lang/Object")] 7

/-- java/lang/Comparable -/
def k5 : Class := { plain "java/lang/Comparable" (some 0) with
  accessFlags := 1537
  interfaces := #[]
  cf := some (fileOf pool5 1 #[] #[] 1537 3 #[] #[])
  fields := #[]
  methods := #[]
  instanceTypes := #[]
  staticTypes := #[]
  resolved := Array.replicate 12 none
  statics := none }

def pool6 : Array CpInfo := pool [(1, .class_ 2), (0, u "java/io/Serializable"), (0, .class_ 4), (0, u "java/lang/Object")] 2

/-- java/io/Serializable -/
def k6 : Class := { plain "java/io/Serializable" (some 0) with
  accessFlags := 1537
  interfaces := #[]
  cf := some (fileOf pool6 1 #[] #[] 1537 3 #[] #[])
  fields := #[]
  methods := #[]
  instanceTypes := #[]
  staticTypes := #[]
  resolved := Array.replicate 7 none
  statics := none }

def pool7 : Array CpInfo := pool [(2, .class_ 4), (1, u "java/lang/Enum"), (0, u "name"), (0, u "Ljava/lang/String;"), (2, u "ordinal"), (0, u "I"), (1, .class_ 14), (1, u "java/lang/Object"), (4, u "hash"), (86, .class_ 108), (1, u "java/lang/Enum$EnumDesc"), (2, .class_ 112), (0, u "java/lang/constant/Constable"), (0, .class_ 114), (0, u "java/lang/Comparable"), (0, .class_ 116), (0, u "java/io/Serializable")] 87

/-- java/lang/Enum -/
def k7 : Class := { plain "java/lang/Enum" (some 0) with
  accessFlags := 1057
  interfaces := #[4, 5, 6]
  cf := some (fileOf pool7 2 #[.nestMembers #[106]] #[] 1057 12 #[111, 113, 115] #[{ accessFlags := 18, nameIndex := 5, descriptorIndex := 6, attributes := #[] }, { accessFlags := 18, nameIndex := 9, descriptorIndex := 10, attributes := #[] }, { accessFlags := 2, nameIndex := 19, descriptorIndex := 10, attributes := #[] }])
  fields := #[{ name := "name", type := (.object "java/lang/String"), accessFlags := 18, slot := 0, constantValue := 0 }, { name := "ordinal", type := .int, accessFlags := 18, slot := 1, constantValue := 0 }, { name := "hash", type := .int, accessFlags := 2, slot := 2, constantValue := 0 }]
  methods := #[]
  instanceTypes := #[(.object "java/lang/String"), .int, .int]
  staticTypes := #[]
  resolved := Array.replicate 204 none
  statics := none }

def pool8 : Array CpInfo := pool [(1, .class_ 2), (0, u "com/example/stanza_filter/stanzafilter/engine/Action"), (2, u "ALLOW"), (0, u "Lcom/example/stanza_filter/stanzafilter/engine/Action;"), (2, u "DENY"), (2, u "$VALUES"), (0, u "[Lcom/example/stanza_filter/stanzafilter/engine/Action;"), (6, .class_ 22), (1, u "java/lang/Enum")] 24

/-- com/example/stanza_filter/stanzafilter/engine/Action -/
def k8 : Class := { plain "com/example/stanza_filter/stanzafilter/engine/Action" (some 7) with
  accessFlags := 16433
  interfaces := #[]
  cf := some (fileOf pool8 1 #[] #[] 16433 20 #[] #[{ accessFlags := 16409, nameIndex := 5, descriptorIndex := 6, attributes := #[] }, { accessFlags := 16409, nameIndex := 9, descriptorIndex := 6, attributes := #[] }, { accessFlags := 4122, nameIndex := 12, descriptorIndex := 13, attributes := #[] }])
  fields := #[{ name := "ALLOW", type := (.object "com/example/stanza_filter/stanzafilter/engine/Action"), accessFlags := 16409, slot := 0, constantValue := 0 }, { name := "DENY", type := (.object "com/example/stanza_filter/stanzafilter/engine/Action"), accessFlags := 16409, slot := 1, constantValue := 0 }, { name := "$VALUES", type := (.array (.object "com/example/stanza_filter/stanzafilter/engine/Action")), accessFlags := 4122, slot := 2, constantValue := 0 }]
  methods := #[]
  instanceTypes := #[(.object "java/lang/String"), .int, .int]
  staticTypes := #[(.object "com/example/stanza_filter/stanzafilter/engine/Action"), (.object "com/example/stanza_filter/stanzafilter/engine/Action"), (.array (.object "com/example/stanza_filter/stanzafilter/engine/Action"))]
  resolved := Array.replicate 47 none
  statics := some 0 }

def pool9 : Array CpInfo := pool [(2, .class_ 4), (1, u "java/lang/CharSequence"), (42, .class_ 48), (0, u "java/lang/CharSequence$1CodePointIterator"), (10, .class_ 60), (0, u "java/lang/CharSequence$1CharIterator"), (5, .class_ 67), (0, u "java/lang/Object")] 63

/-- java/lang/CharSequence -/
def k9 : Class := { plain "java/lang/CharSequence" (some 0) with
  accessFlags := 1537
  interfaces := #[]
  cf := some (fileOf pool9 2 #[.nestMembers #[47, 59]] #[] 1537 66 #[] #[])
  fields := #[]
  methods := #[]
  instanceTypes := #[]
  staticTypes := #[]
  resolved := Array.replicate 131 none
  statics := none }

def pool10 : Array CpInfo := pool [(1, .class_ 2), (0, u "java/lang/constant/ConstantDesc"), (0, .class_ 4), (0, u "java/lang/Object")] 32

/-- java/lang/constant/ConstantDesc -/
def k10 : Class := { plain "java/lang/constant/ConstantDesc" (some 0) with
  accessFlags := 1537
  interfaces := #[]
  cf := some (fileOf pool10 1 #[] #[] 1537 3 #[] #[])
  fields := #[]
  methods := #[]
  instanceTypes := #[]
  staticTypes := #[]
  resolved := Array.replicate 37 none
  statics := none }

def pool11 : Array CpInfo := pool [(2, .class_ 4), (1, u "java/lang/Object"), (0, u "<init>"), (0, u "()V"), (3, .class_ 12), (1, u "java/lang/String"), (0, u "value"), (0, u "[B"), (2, u "coder"), (0, u "B"), (2, u "hash"), (0, u "I"), (2, u "hashIsZero"), (0, u "Z"), (13, u "COMPACT_STRINGS"), (534, .class_ 576), (0, u "java/lang/CharSequence"), (22, u "CASE_INSENSITIVE_ORDER"), (0, u "Ljava/util/Comparator;"), (500, u "serialPersistentFields"), (0, u "[Ljava/io/ObjectStreamField;"), (0, .class_ 1104), (0, u "java/lang/String$CaseInsensitiveComparator"), (1, .class_ 1107), (0, u "java/io/Serializable"), (0, .class_ 1109), (0, u "java/lang/Comparable"), (0, .class_ 1111), (0, u "java/lang/constant/Constable"), (0, .class_ 1113), (0, u "java/lang/constant/ConstantDesc"), (2, u "serialVersionUID"), (0, u "J"), (3, u "REPL"), (0, u "C"), (2, u "LATIN1"), (1, u "UTF16")] 323

def k11m0 : Method := { name := "<init>", desc := "()V", sig := { parameters := [], returnType := none }, accessFlags := 1, code := none }
/-- java/lang/String -/
def k11 : Class := { plain "java/lang/String" (some 0) with
  accessFlags := 49
  interfaces := #[6, 5, 9, 4, 10]
  cf := some (fileOf pool11 10 #[.nestMembers #[1103]] #[{ accessFlags := 1, nameIndex := 5, descriptorIndex := 6, attributes := #[] }] 49 2 #[1106, 1108, 575, 1110, 1112] #[{ accessFlags := 18, nameIndex := 13, descriptorIndex := 14, attributes := #[] }, { accessFlags := 18, nameIndex := 17, descriptorIndex := 18, attributes := #[] }, { accessFlags := 2, nameIndex := 21, descriptorIndex := 22, attributes := #[] }, { accessFlags := 2, nameIndex := 25, descriptorIndex := 26, attributes := #[] }, { accessFlags := 26, nameIndex := 1116, descriptorIndex := 1117, attributes := #[] }, { accessFlags := 24, nameIndex := 40, descriptorIndex := 26, attributes := #[] }, { accessFlags := 26, nameIndex := 1101, descriptorIndex := 1102, attributes := #[] }, { accessFlags := 26, nameIndex := 1121, descriptorIndex := 1122, attributes := #[] }, { accessFlags := 25, nameIndex := 599, descriptorIndex := 600, attributes := #[] }, { accessFlags := 24, nameIndex := 1125, descriptorIndex := 18, attributes := #[] }, { accessFlags := 24, nameIndex := 1127, descriptorIndex := 18, attributes := #[] }])
  fields := #[{ name := "value", type := (.array .byte), accessFlags := 18, slot := 0, constantValue := 0 }, { name := "coder", type := .byte, accessFlags := 18, slot := 1, constantValue := 0 }, { name := "hash", type := .int, accessFlags := 2, slot := 2, constantValue := 0 }, { name := "hashIsZero", type := .boolean, accessFlags := 2, slot := 3, constantValue := 0 }, { name := "serialVersionUID", type := .long, accessFlags := 26, slot := 0, constantValue := 0 }, { name := "COMPACT_STRINGS", type := .boolean, accessFlags := 24, slot := 1, constantValue := 0 }, { name := "serialPersistentFields", type := (.array (.object "java/io/ObjectStreamField")), accessFlags := 26, slot := 2, constantValue := 0 }, { name := "REPL", type := .char, accessFlags := 26, slot := 3, constantValue := 0 }, { name := "CASE_INSENSITIVE_ORDER", type := (.object "java/util/Comparator"), accessFlags := 25, slot := 4, constantValue := 0 }, { name := "LATIN1", type := .byte, accessFlags := 24, slot := 5, constantValue := 0 }, { name := "UTF16", type := .byte, accessFlags := 24, slot := 6, constantValue := 0 }]
  methods := #[k11m0]
  instanceTypes := #[(.array .byte), .byte, .int, .boolean]
  staticTypes := #[.long, .boolean, (.array (.object "java/io/ObjectStreamField")), .char, (.object "java/util/Comparator"), .byte, .byte]
  resolved := Array.replicate 1451 none
  statics := none }

def pool12 : Array CpInfo := pool [(2, .class_ 4), (1, u "java/lang/Object"), (0, u "<init>"), (0, u "()V"), (35, .class_ 44), (1, u "java/util/Objects"), (0, u "requireNonNull"), (48, u "(Ljava/lang/Object;Ljava/lang/String;)Ljava/lang/Object;")] 89

def k12m0 : Method := { name := "<init>", desc := "()V", sig := { parameters := [], returnType := none }, accessFlags := 2, code := none }
def k12c1 : Code := { maxStack := 3, maxLocals := 2, code := jdk_31_method_11_code, exceptionTable := #[], attributes := #[] }
def k12m1 : Method := { name := "requireNonNull", desc := "(Ljava/lang/Object;Ljava/lang/String;)Ljava/lang/Object;", sig := { parameters := [(.object "java/lang/Object"), (.object "java/lang/String")], returnType := some (.object "java/lang/Object") }, accessFlags := 9, code := some k12c1 }
/-- java/util/Objects -/
def k12 : Class := { plain "java/util/Objects" (some 0) with
  accessFlags := 49
  interfaces := #[]
  cf := some (fileOf pool12 42 #[] #[{ accessFlags := 2, nameIndex := 5, descriptorIndex := 6, attributes := #[] }, { accessFlags := 9, nameIndex := 45, descriptorIndex := 94, attributes := #[] }] 49 2 #[] #[])
  fields := #[]
  methods := #[k12m0, k12m1]
  instanceTypes := #[]
  staticTypes := #[]
  resolved := Array.replicate 184 none
  statics := none }

def pool13 : Array CpInfo := pool [(1, u "java/lang/Cloneable"), (0, .class_ 1), (0, u "java/lang/Object"), (0, .class_ 3)] 3

/-- java/lang/Cloneable -/
def k13 : Class := { plain "java/lang/Cloneable" (some 0) with
  accessFlags := 1537
  interfaces := #[]
  cf := some (fileOf pool13 2 #[] #[] 1537 4 #[] #[])
  fields := #[]
  methods := #[]
  instanceTypes := #[]
  staticTypes := #[]
  resolved := Array.replicate 8 none
  statics := none }

/-- the primitive byte -/
def k14 : Class := { plain "byte" none with kind := .primitive 'B', accessFlags := 0x411 }
/-- [B -/
def k15 : Class := { plain "[B" (some 0) with kind := .array 14 .byte, interfaces := #[13, 6], accessFlags := 1041 }

/-- the primitive int -/
def k16 : Class := { plain "int" none with kind := .primitive 'I', accessFlags := 0x411 }
/-- [I -/
def k17 : Class := { plain "[I" (some 0) with kind := .array 16 .int, interfaces := #[13, 6], accessFlags := 1041 }

def heap : Heap := #[{ cls := 8, slots := #[.ref 1, .null, .null], vm := .statics 8 },
  { cls := 8, slots := #[.null, .int 0, .int 0], vm := .none }]
def classes : Array Class := #[k0, k1, k2, k3, k4, k5, k6, k7, k8, k9, k10, k11, k12, k13, k14, k15, k16, k17]
def interned : List (Array UInt16 × Addr) := []
def slotsUsed : Nat := 6
def theMethod : MethodId := ⟨1, 1⟩
def args0 : Array Value := #[]
def aboutOver (below : List Frame) : State where
  vm := { classes := classes, interned := interned.toArray }
  heap := heap
  slotsUsed := slotsUsed
  threads := #[{ frames := .invoking theMethod args0 :: below }]
def below0 : List Frame := [.native { method := ⟨0, 0⟩, args := #[] }]
def about1 : State := aboutOver below0
def p0 : Program := .bare "" "" ""
def e0 : Env := launch0.env 0 0 0
theorem w_frames : about1.frames = Frame.invoking theMethod args0 :: below0 := rfl
set_option maxRecDepth 65536 in
theorem w_args : argsFit about1.vm theMethod args0 = true := by decide +kernel
set_option maxRecDepth 65536 in
theorem w_heap : heapFits about1 = true := by decide +kernel
set_option maxRecDepth 65536 in
theorem w_runnable : about1.curStatus? = some .runnable := by decide +kernel
set_option maxRecDepth 65536 in
theorem w_alone : about1.alone = true := by decide +kernel
set_option maxRecDepth 65536 in
theorem w_named : about1.methodNamed? x = some theMethod := by decide +kernel
set_option maxRecDepth 65536 in
theorem w_hears : about1.hears theMethod below0 = true := by decide +kernel
set_option maxRecDepth 65536 in
theorem w_ripe : about1.ripe theMethod args0 below0 = true := by decide +kernel
theorem w_running : about1.status = .running := rfl
set_option maxRecDepth 65536 in
theorem w_room : about1.hasRoom e0.platform room_1 = true :=
  launch0.hasRoom_least _ room_1 (by decide +kernel) (by decide +kernel) (by decide +kernel) (by decide +kernel) (by decide +kernel) (by decide +kernel)
theorem allAtoms_all (ts : List Jvm.Cond) (a : Array Jvm.Value) (st : Jvm.State) : (allAtoms ts).before a st = ts.all (fun c => c.before a st) := by
  induction ts with
  | nil => rfl
  | cons c t ih =>
    show (Jvm.Cond.and c (allAtoms t)).before a st = _
    rw [Jvm.Cond.before_and, ih, List.all_cons]
def words1 : List Jvm.Cond := Jvm.Cond.code x code maxLocals ret :: tables_1
/-- a 'code' word, met by the world's own term for the bytes: nothing is compared byte by byte -/
theorem code_word {y : MethodName} {bytes : ByteArray} {mx : Nat} {rt : Option FieldType} {a : Array Value} {s : State} {m : MethodId} {meth : Method} {c : Code} (h1 : s.methodNamed? y = some m) (h2 : s.vm.method? m = some meth) (h3 : meth.code = some c) (h4 : c.code = bytes)
    (h5 : (c.maxLocals == mx && c.exceptionTable.isEmpty && decide (c.maxStack ≤ mostOperands) && decide (meth.sig.returnType = rt) && !meth.locks && decide (parseMethodDescriptor y.desc = some meth.sig)) = true) : (Jvm.Cond.code y bytes mx rt).before a s = true := by
  simp only [Bool.and_eq_true, beq_iff_eq, Bool.not_eq_true', decide_eq_true_eq] at h5
  obtain ⟨⟨⟨⟨⟨g1, g2⟩, g3⟩, g4⟩, g5⟩, g6⟩ := h5
  simp [Cond.before, Cond.holds, Cond.value, h1, h2, h3, h4, g1, g2, g3, g4, g5, g6]
def isCode : Jvm.Cond → Bool
  | .code _ _ _ _ => true
  | _ => false
theorem all_split {L : List Jvm.Cond} {P : Jvm.Cond → Bool} (h1 : L.all (fun c => isCode c || P c) = true) (h2 : ∀ c ∈ L.filter isCode, P c = true) : L.all P = true := by
  refine List.all_eq_true.mpr fun c hc => ?_
  have h := List.all_eq_true.mp h1 c hc
  rcases Bool.eq_false_or_eq_true (isCode c) with hi | hi
  · exact h2 c (List.mem_filter.mpr ⟨hc, hi⟩)
  · simpa [hi] using h
set_option maxRecDepth 65536 in
theorem w_c0 : (Jvm.Cond.code x code maxLocals ret).before args0 about1 = true := code_word (m := ⟨1, 1⟩) (meth := k1m1) (c := k1c1) (by decide +kernel) rfl rfl rfl (by decide +kernel)
set_option maxRecDepth 65536 in
theorem w_c1 : (Jvm.Cond.code ({ cls := "com/example/stanza_filter/stanzafilter/engine/Verdict", name := "noList", desc := "()Lcom/example/stanza_filter/stanzafilter/engine/Verdict;" } : Jvm.MethodName) prog_16_method_2_code (0 : Nat) (Option.some (Jvm.ClassFile.FieldType.object "com/example/stanza_filter/stanzafilter/engine/Verdict"))).before args0 about1 = true := code_word (m := ⟨3, 1⟩) (meth := k3m1) (c := k3c1) (by decide +kernel) rfl rfl rfl (by decide +kernel)
set_option maxRecDepth 65536 in
theorem w_c2 : (Jvm.Cond.code ({ cls := "com/example/stanza_filter/stanzafilter/engine/Verdict", name := "<init>", desc := "(Lcom/example/stanza_filter/stanzafilter/engine/Action;Ljava/lang/String;Lcom/example/stanza_filter/stanzafilter/engine/PrivacyItem;)V" } : Jvm.MethodName) prog_16_method_1_code (4 : Nat) (Option.none : Option Jvm.ClassFile.FieldType)).before args0 about1 = true := code_word (m := ⟨3, 0⟩) (meth := k3m0) (c := k3c0) (by decide +kernel) rfl rfl rfl (by decide +kernel)
set_option maxRecDepth 65536 in
theorem w_c3 : (Jvm.Cond.code ({ cls := "java/lang/Record", name := "<init>", desc := "()V" } : Jvm.MethodName) jdk_30_method_1_code (1 : Nat) (Option.none : Option Jvm.ClassFile.FieldType)).before args0 about1 = true := code_word (m := ⟨2, 0⟩) (meth := k2m0) (c := k2c0) (by decide +kernel) rfl rfl rfl (by decide +kernel)
set_option maxRecDepth 65536 in
theorem w_c4 : (Jvm.Cond.code ({ cls := "java/lang/Object", name := "<init>", desc := "()V" } : Jvm.MethodName) object_method_1_code (1 : Nat) (Option.none : Option Jvm.ClassFile.FieldType)).before args0 about1 = true := code_word (m := ⟨0, 0⟩) (meth := k0m0) (c := k0c0) (by decide +kernel) rfl rfl rfl (by decide +kernel)
set_option maxRecDepth 65536 in
theorem w_c5 : (Jvm.Cond.code ({ cls := "java/util/Objects", name := "requireNonNull", desc := "(Ljava/lang/Object;Ljava/lang/String;)Ljava/lang/Object;" } : Jvm.MethodName) jdk_31_method_11_code (2 : Nat) (Option.some (Jvm.ClassFile.FieldType.object "java/lang/Object"))).before args0 about1 = true := code_word (m := ⟨12, 1⟩) (meth := k12m1) (c := k12c1) (by decide +kernel) rfl rfl rfl (by decide +kernel)
set_option maxRecDepth 65536 in
theorem w_c6 : (Jvm.Cond.code ({ cls := "com/example/stanza_filter/stanzafilter/engine/Verdict", name := "action", desc := "()Lcom/example/stanza_filter/stanzafilter/engine/Action;" } : Jvm.MethodName) prog_16_method_6_code (1 : Nat) (Option.some (Jvm.ClassFile.FieldType.object "com/example/stanza_filter/stanzafilter/engine/Action"))).before args0 about1 = true := code_word (m := ⟨3, 2⟩) (meth := k3m2) (c := k3c2) (by decide +kernel) rfl rfl rfl (by decide +kernel)
set_option maxRecDepth 65536 in
theorem w_c7 : (Jvm.Cond.code ({ cls := "com/example/stanza_filter/stanzafilter/engine/Verdict", name := "list", desc := "()Ljava/lang/String;" } : Jvm.MethodName) prog_16_method_7_code (1 : Nat) (Option.some (Jvm.ClassFile.FieldType.object "java/lang/String"))).before args0 about1 = true := code_word (m := ⟨3, 3⟩) (meth := k3m3) (c := k3c3) (by decide +kernel) rfl rfl rfl (by decide +kernel)
set_option maxRecDepth 65536 in
theorem w_c8 : (Jvm.Cond.code ({ cls := "com/example/stanza_filter/stanzafilter/engine/Verdict", name := "item", desc := "()Lcom/example/stanza_filter/stanzafilter/engine/PrivacyItem;" } : Jvm.MethodName) prog_16_method_8_code (1 : Nat) (Option.some (Jvm.ClassFile.FieldType.object "com/example/stanza_filter/stanzafilter/engine/PrivacyItem"))).before args0 about1 = true := code_word (m := ⟨3, 4⟩) (meth := k3m4) (c := k3c4) (by decide +kernel) rfl rfl rfl (by decide +kernel)
def codes1 : List Jvm.Cond := [Jvm.Cond.code x code maxLocals ret, Jvm.Cond.code ({ cls := "com/example/stanza_filter/stanzafilter/engine/Verdict", name := "noList", desc := "()Lcom/example/stanza_filter/stanzafilter/engine/Verdict;" } : Jvm.MethodName) prog_16_method_2_code (0 : Nat) (Option.some (Jvm.ClassFile.FieldType.object "com/example/stanza_filter/stanzafilter/engine/Verdict")), Jvm.Cond.code ({ cls := "com/example/stanza_filter/stanzafilter/engine/Verdict", name := "<init>", desc := "(Lcom/example/stanza_filter/stanzafilter/engine/Action;Ljava/lang/String;Lcom/example/stanza_filter/stanzafilter/engine/PrivacyItem;)V" } : Jvm.MethodName) prog_16_method_1_code (4 : Nat) (Option.none : Option Jvm.ClassFile.FieldType), Jvm.Cond.code ({ cls := "java/lang/Record", name := "<init>", desc := "()V" } : Jvm.MethodName) jdk_30_method_1_code (1 : Nat) (Option.none : Option Jvm.ClassFile.FieldType), Jvm.Cond.code ({ cls := "java/lang/Object", name := "<init>", desc := "()V" } : Jvm.MethodName) object_method_1_code (1 : Nat) (Option.none : Option Jvm.ClassFile.FieldType), Jvm.Cond.code ({ cls := "java/util/Objects", name := "requireNonNull", desc := "(Ljava/lang/Object;Ljava/lang/String;)Ljava/lang/Object;" } : Jvm.MethodName) jdk_31_method_11_code (2 : Nat) (Option.some (Jvm.ClassFile.FieldType.object "java/lang/Object")), Jvm.Cond.code ({ cls := "com/example/stanza_filter/stanzafilter/engine/Verdict", name := "action", desc := "()Lcom/example/stanza_filter/stanzafilter/engine/Action;" } : Jvm.MethodName) prog_16_method_6_code (1 : Nat) (Option.some (Jvm.ClassFile.FieldType.object "com/example/stanza_filter/stanzafilter/engine/Action")), Jvm.Cond.code ({ cls := "com/example/stanza_filter/stanzafilter/engine/Verdict", name := "list", desc := "()Ljava/lang/String;" } : Jvm.MethodName) prog_16_method_7_code (1 : Nat) (Option.some (Jvm.ClassFile.FieldType.object "java/lang/String")), Jvm.Cond.code ({ cls := "com/example/stanza_filter/stanzafilter/engine/Verdict", name := "item", desc := "()Lcom/example/stanza_filter/stanzafilter/engine/PrivacyItem;" } : Jvm.MethodName) prog_16_method_8_code (1 : Nat) (Option.some (Jvm.ClassFile.FieldType.object "com/example/stanza_filter/stanzafilter/engine/PrivacyItem"))]
set_option maxRecDepth 65536 in
theorem codes_eq : words1.filter isCode = codes1 := rfl
theorem w_codes : ∀ c ∈ words1.filter isCode, c.before args0 about1 = true := by
  rw [codes_eq]
  intro c hc
  simp only [codes1, List.mem_cons, List.not_mem_nil, or_false] at hc
  rcases hc with rfl | rfl | rfl | rfl | rfl | rfl | rfl | rfl | rfl
  · exact w_c0
  · exact w_c1
  · exact w_c2
  · exact w_c3
  · exact w_c4
  · exact w_c5
  · exact w_c6
  · exact w_c7
  · exact w_c8
set_option maxRecDepth 65536 in
theorem w_t1 : (words1.take 24).all (fun c => isCode c || c.before args0 about1) = true := by decide +kernel
set_option maxRecDepth 65536 in
theorem w_t2 : ((words1.drop 24).take 24).all (fun c => isCode c || c.before args0 about1) = true := by decide +kernel
set_option maxRecDepth 65536 in
theorem w_t3 : ((words1.drop 24).drop 24).all (fun c => isCode c || c.before args0 about1) = true := by decide +kernel
theorem w_tables : (allAtoms (Jvm.Cond.code x code maxLocals ret :: tables_1)).before args0 about1 = true := by
  rw [allAtoms_all]
  show words1.all (fun c => c.before args0 about1) = true
  refine all_split ?_ w_codes
  rw [← List.take_append_drop 24 words1, List.all_append, w_t1, ← List.take_append_drop 24 (words1.drop 24), List.all_append, w_t2, w_t3]
  rfl
set_option maxRecDepth 65536 in
theorem w_case : (Jvm.Cond.and given_1 narrow_1).before args0 about1 = true := by decide +kernel
theorem w_applies : (headSpec (Jvm.Cond.code x code maxLocals ret :: tables_1) room_1).applies x e0.platform about1 = true :=
  (Spec.applies_iff w_frames).mpr ⟨w_running, w_runnable, w_alone, w_named, w_hears, w_ripe, w_room, w_tables⟩
theorem atStart : AtStart classFile x code maxLocals ret World_1 tables_1 room_1 Calls_1 rest_1 Pre_1 launch0 p0 e0 about1 theMethod args0 below0 :=
  ⟨lists_1, trivial, launch0.admits_env _ _ _, launch0.least_env, fairChoices_fair.cas, fairChoices_fair.clock, w_frames, w_args, w_heap, w_applies, trivial, trivial, w_case⟩
end start1
theorem witness_1 : WitnessClaimed_1 := ⟨start1.p0, start1.e0, start1.about1, start1.theMethod, start1.args0, start1.below0, start1.atStart⟩
end Jvm.Pilot.@@N@@
