import JvmDerived
import JvmDerived.Pilot.@@N@@Statement
import JvmDerived.Pilot.@@N@@Code
set_option linter.unusedVariables false
set_option linter.unusedSimpArgs false
namespace Jvm.RoadKit
open Sem ClassFile Op Lib Jvm.Stand Jvm.Free Jvm.LawKit
section New
variable {p : Program} {l : Launch} {e : Env} {R : Room} {s : State} {m : MethodId} {args : Array Value} {below : List Frame} {meth : Method} {c : Code} {T : State} {locs : List Loc} {cells slots : Nat}
theorem retI (X : Stand p l e R s m args below meth c T locs cells slots) (hx : p.tables.exec = Jvm.exec) {pc : Nat} {Ls : Array Slot} {z : Int32} {rest : List Value} (hret : meth.sig.returnType = some .int) (hd : decode c.code pc = .ok (.ireturn, 1)) {fs : List Frame}
    (hl : ∀ (f : JFrame) (acts : List Action), f.method = m → f.locked = none → f.entered = [] → (doReturn e (T.setTop f) acts (some (.int z))).1 = T.setFrames fs) : Steps p.tables e below (T.setTop (mkF m pc Ls (.int z :: rest))) (T.setFrames fs) := by
  have hm' : T.vm.method? m = some meth := X.method'
  have hn : narrow .int (.int z) = .int z := rfl
  show Steps p.tables e below (T.setTop { method := m, pc := pc, locals := Ls, stack := _ :: rest, locked := none }) _
  jvm_step X.here [X.here.top, hx, hd, hm', hret, hn]
  first | (intro acts; rw [hl _ acts rfl rfl rfl]) | rw [hl _ _ rfl rfl rfl]
  exact Steps.refl _
end New
end Jvm.RoadKit
namespace Jvm.Pilot.@@N@@
open Jvm Jvm.ClassFile Sem Op Lib Jvm.Free Jvm.Stand Jvm.LawKit Jvm.RoadKit Bundle Jvm.Pilot.@@N@@.Jvm.D
/-! small facts of my own -/
theorem own_fld {args : Array Value} {s : State} {t : Term} {a : Addr} {C n d : String} {k : Int32} (ev : t.eval args s none [] s = some (.ref a)) (h : (Jvm.Cond.eq (.field t C n d) (.int k)).value args s none s [] = some true) : Fld s s.heap a C n d (.int k) := by
  refine Fld.start ?_
  have h2 : (Term.field t C n d).eval args s none [] s = s.fieldOf? a C n d := by simp [Term.eval, ev]
  obtain ⟨x, y, e1, e2, k1, k2⟩ := cmp_v (Or.inl h)
  have e3 : y = .int k := (Option.some.inj e2).symm
  subst e3
  obtain ⟨z, rfl⟩ := k2
  have e4 : z = k := by simpa [Jvm.Cond.value, e1, e2] using h
  rw [← h2, e1, e4]
theorem own_leT {k : Nat} {T : State} {h : Heap} (e : T.heap = h) (hk : k ≤ h.size) : k ≤ T.heap.size := by rw [e]; exact hk
theorem own_lcmp0 {x : Int64} : lcmpW x x = 0 := (lw_eq x x).mpr rfl
theorem own_lt {x j k : Int32} (h : x < j) (q : ¬ k < j) : x < k := by rw [Int32.lt_iff_toInt_lt] at *; omega
theorem own_gt {x j k : Int32} (h : j < x) (q : ¬ j < k) : k < x := by rw [Int32.lt_iff_toInt_lt] at *; omega
theorem own_nlt {x j k : Int32} (h : j < x) (q : ¬ j.toInt + 1 < k.toInt) : ¬ x < k := by rw [Int32.lt_iff_toInt_lt] at *; omega
theorem own_ngt {x j k : Int32} (h : x < j) (q : ¬ k.toInt + 1 < j.toInt) : ¬ k < x := by rw [Int32.lt_iff_toInt_lt] at *; omega
theorem own_nelo {x j k : Int32} (h : j < x) (q : ¬ j < k) : ¬ x = k := fun e => by subst e; exact q h
theorem own_nehi {x j k : Int32} (h : x < j) (q : ¬ k < j) : ¬ x = k := fun e => by subst e; exact q h
theorem own_ilt {x k : Int32} {z : Int} (e : k.toInt = z) (h : x.toInt < z) : x < k := by rw [Int32.lt_iff_toInt_lt, e]; exact h
theorem own_igt {x k : Int32} {z : Int} (e : k.toInt = z) (h : z < x.toInt) : k < x := by rw [Int32.lt_iff_toInt_lt, e]; exact h
theorem own_ne {Z : State} {h : Heap} {a b : Addr} {C n d : String} {v w : Value} (F : Fld Z h a C n d v) (G : Fld Z h b C n d w) (hn : v ≠ w) : ¬ (a = b) := fun e => by
  subst e
  obtain ⟨c1, f1, k1, i1, g1, h1, h2, -, -, -, -, h7⟩ := F
  obtain ⟨c2, f2, k2, i2, g2, j1, j2, -, -, -, -, j7⟩ := G
  cases h1.symm.trans j1
  cases h2.symm.trans j2
  exact hn (Option.some.inj (h7.symm.trans j7))

theorem own_sta_keep {Z : State} {h h' : Heap} {C n d : String} {v : Value} (F : Sta Z h C n d v) (K : Keep h h' []) : Sta Z h' C n d v := by
  obtain ⟨cf, i, k, f, st, cell, h1, h2, h3, h4, h5, r⟩ := F
  exact ⟨cf, i, k, f, st, cell, h1, h2, h3, h4, K.2.1 _ _ h5 nin0, r⟩
theorem own_sta_keep1 {Z : State} {h h' : Heap} {C n d K' : String} {v : Value} {b : Addr} (F : Sta Z h C n d v) (K : Keep h h' [b]) (E : Exa Z h b K') : Sta Z h' C n d v := by
  obtain ⟨cf, i, k, f, st, cell, h1, h2, h3, h4, h5, h6, r⟩ := F
  obtain ⟨c2, k2, e1, -, -, e4, -⟩ := E
  refine ⟨cf, i, k, f, st, cell, h1, h2, h3, h4, K.2.1 _ _ h5 (ninS (fun q => ?_) nin0), h6, r⟩
  subst q
  cases h5.symm.trans e1
  rw [h6] at e4; cases e4
section OwnArr
variable {p : Program} {l : Launch} {e : Env} {R : Room} {s : State} {m : MethodId} {args : Array Value} {below : List Frame} {meth : Method} {c : Code} {T : State} {locs : List Loc} {cells slots : Nat} {Z : State} {h : Heap}
theorem own_stI (X : Stand p l e R s m args below meth c T locs cells slots) (hx : p.tables.exec = Jvm.exec) (hZ : Z.Warmed39 s.vm) (eT : T.heap = h) {a : Addr} {k : ClassId} {z j x : Int32} {vs : List Value} {d : Value} (V : Arv Z h a k .int z vs d) (i : Nat) (hj : j.toNatClampNeg = i) (hin : ¬ j < 0 ∧ j < z) (hi : i < vs.length) {g : JFrame} (hg : g.method = m) {rest : List Value} (hs : g.stack = .int x :: .int j :: .ref a :: rest) (hd : decode c.code g.pc = .ok (.iastore, 1)) :
    ∃ T' h', Stand p l e R s m args below meth c T' (locs ++ [⟨a, j.toNatClampNeg⟩]) cells slots ∧ T'.heap = h' ∧ Wr h h' a j.toNatClampNeg (.int x) ∧ Arv Z h' a k .int z (vs.set i (.int x)) d ∧ ∀ target, Steps p.tables e below (T'.setTop { g with pc := g.pc + 1, stack := rest }) target → Steps p.tables e below (T.setTop g) target := by
  obtain ⟨cl, A, q1, S, q3, H, G⟩ := V
  obtain ⟨T', h', X', e', W, st⟩ := stI X hx hZ eT A (j := j) (inb_of S hin) hg hs hd
  exact ⟨T', h', X', e', W, Arv.set A q1 S q3 H G rfl W i hj hi, st⟩
theorem own_stR (X : Stand p l e R s m args below meth c T locs cells slots) (hx : p.tables.exec = Jvm.exec) (hZ : Z.Warmed39 s.vm) (eT : T.heap = h) {a y : Addr} {k : ClassId} {z j : Int32} {vs : List Value} {d : Value} {C : String} (V : Arv Z h a k (.object C) z vs d) (O : Ovr Z k C) (I : Ins Z h y C true) (i : Nat) (hj : j.toNatClampNeg = i) (hin : ¬ j < 0 ∧ j < z) (hi : i < vs.length) {g : JFrame} (hg : g.method = m) {rest : List Value} (hs : g.stack = .ref y :: .int j :: .ref a :: rest) (hd : decode c.code g.pc = .ok (.aastore, 1)) :
    ∃ T' h', Stand p l e R s m args below meth c T' (locs ++ [⟨a, j.toNatClampNeg⟩]) cells slots ∧ T'.heap = h' ∧ Wr h h' a j.toNatClampNeg (.ref y) ∧ Arv Z h' a k (.object C) z (vs.set i (.ref y)) d ∧ ∀ target, Steps p.tables e below (T'.setTop { g with pc := g.pc + 1, stack := rest }) target → Steps p.tables e below (T.setTop g) target := by
  obtain ⟨cl, A, q1, S, q3, H, G⟩ := V
  obtain ⟨T', h', X', e', W, st⟩ := stR X hx hZ eT A (j := j) (inb_of S hin) rfl (Sto.ofV A q1 O I) hg hs hd
  exact ⟨T', h', X', e', W, Arv.set A q1 S q3 H G rfl W i hj hi, st⟩
theorem own_ldI (X : Stand p l e R s m args below meth c T locs cells slots) (hx : p.tables.exec = Jvm.exec) (hZ : Z.Warmed39 s.vm) (eT : T.heap = h) {a : Addr} {k : ClassId} {z j : Int32} {vs : List Value} {d v : Value} (V : Arv Z h a k .int z vs d) (hin : ¬ j < 0 ∧ j < z) (hv : vs.getD j.toNatClampNeg d = v) {g : JFrame} (hg : g.method = m) {rest : List Value} (hs : g.stack = .int j :: .ref a :: rest) (hd : decode c.code g.pc = .ok (.iaload, 1)) :
    ∀ target, Steps p.tables e below (T.setTop { g with pc := g.pc + 1, stack := v :: rest }) target → Steps p.tables e below (T.setTop g) target := by
  obtain ⟨cl, A, q1, S, q3, H, G⟩ := V
  have hin' := inb_of S hin
  exact X.iaload hx (by rw [eT]; exact A.1) (State.isArrayOf_alike hZ.alike A.2.1) A.2.2 hin' (H.at hin' hv) hg hs hd
theorem own_ldR (X : Stand p l e R s m args below meth c T locs cells slots) (hx : p.tables.exec = Jvm.exec) (hZ : Z.Warmed39 s.vm) (eT : T.heap = h) {a : Addr} {k : ClassId} {z j : Int32} {vs : List Value} {d v : Value} {C : String} (V : Arv Z h a k (.object C) z vs d) (hin : ¬ j < 0 ∧ j < z) (hv : vs.getD j.toNatClampNeg d = v) {g : JFrame} (hg : g.method = m) {rest : List Value} (hs : g.stack = .int j :: .ref a :: rest) (hd : decode c.code g.pc = .ok (.aaload, 1)) :
    ∀ target, Steps p.tables e below (T.setTop { g with pc := g.pc + 1, stack := v :: rest }) target → Steps p.tables e below (T.setTop g) target := by
  obtain ⟨cl, A, q1, S, q3, H, G⟩ := V
  have hin' := inb_of S hin
  exact X.aaload hx (by rw [eT]; exact A.1) (State.isArrayOf_alike hZ.alike A.2.1) rfl A.2.2 hin' (H.at hin' hv) hg hs hd
end OwnArr

theorem d1_0 : decode prog_6_method_4_code 0 = .ok (.aload_n 0, 1) := by decide +kernel
theorem d1_1 : decode prog_6_method_4_code 1 = .ok (.invokevirtual 35, 3) := by decide +kernel
theorem d2_0 : decode jdk_37_method_2_code 0 = .ok (.aload_n 0, 1) := by decide +kernel
theorem d2_1 : decode jdk_37_method_2_code 1 = .ok (.getfield 7, 3) := by decide +kernel
theorem d2_4 : decode jdk_37_method_2_code 4 = .ok (.ireturn, 1) := by decide +kernel
theorem pn_2 : plainName "java/lang/Enum" = true := by first | (simp [plainName, overriddenIn]; done) | decide +kernel
theorem pd___I : parseMethodDescriptor "()I" = some ⟨[], some .int⟩ := by decide +kernel
theorem d1_4 : decode prog_6_method_4_code 4 = .ok (.tableswitch 32 0 3 #[42, 57, 72, 98], 32) := by decide +kernel
theorem d1_46 : decode prog_6_method_4_code 46 = .ok (.aload_n 2, 1) := by decide +kernel
theorem d1_47 : decode prog_6_method_4_code 47 = .ok (.getstatic 44, 3) := by decide +kernel
theorem d1_50 : decode prog_6_method_4_code 50 = .ok (.if_acmp .ne 7, 3) := by decide +kernel
theorem d1_57 : decode prog_6_method_4_code 57 = .ok (.aload_n 2, 1) := by decide +kernel
theorem d1_58 : decode prog_6_method_4_code 58 = .ok (.goto 54, 3) := by decide +kernel
theorem d1_112 : decode prog_6_method_4_code 112 = .ok (.areturn, 1) := by decide +kernel
theorem pn_1 : plainName "com/example/tributary/tributary/AccessList$InheritanceType" = true := by first | (simp [plainName, overriddenIn]; done) | decide +kernel
theorem pd__Lcom_example_tributary_tributary_AccessList_Decision_Lcom_example_tributary_tributary_AccessList_Decision__Lcom_example_tributary_tributary_AccessList_Decision_ : parseMethodDescriptor "(Lcom/example/tributary/tributary/AccessList$Decision;Lcom/example/tributary/tributary/AccessList$Decision;)Lcom/example/tributary/tributary/AccessList$Decision;" = some ⟨[(.object "com/example/tributary/tributary/AccessList$Decision"), (.object "com/example/tributary/tributary/AccessList$Decision")], some (.object "com/example/tributary/tributary/AccessList$Decision")⟩ := by decide +kernel
theorem d1_53 : decode prog_6_method_4_code 53 = .ok (.aload_n 1, 1) := by decide +kernel
theorem d1_54 : decode prog_6_method_4_code 54 = .ok (.goto 58, 3) := by decide +kernel
theorem d1_61 : decode prog_6_method_4_code 61 = .ok (.aload_n 1, 1) := by decide +kernel
theorem d1_62 : decode prog_6_method_4_code 62 = .ok (.getstatic 44, 3) := by decide +kernel
theorem d1_65 : decode prog_6_method_4_code 65 = .ok (.if_acmp .ne 7, 3) := by decide +kernel
theorem d1_72 : decode prog_6_method_4_code 72 = .ok (.aload_n 1, 1) := by decide +kernel
theorem d1_73 : decode prog_6_method_4_code 73 = .ok (.goto 39, 3) := by decide +kernel
theorem d1_68 : decode prog_6_method_4_code 68 = .ok (.aload_n 2, 1) := by decide +kernel
theorem d1_69 : decode prog_6_method_4_code 69 = .ok (.goto 43, 3) := by decide +kernel
theorem d1_76 : decode prog_6_method_4_code 76 = .ok (.aload_n 1, 1) := by decide +kernel
theorem d1_77 : decode prog_6_method_4_code 77 = .ok (.getstatic 50, 3) := by decide +kernel
theorem d1_80 : decode prog_6_method_4_code 80 = .ok (.if_acmp .ne 16, 3) := by decide +kernel
theorem d1_83 : decode prog_6_method_4_code 83 = .ok (.aload_n 2, 1) := by decide +kernel
theorem d1_84 : decode prog_6_method_4_code 84 = .ok (.getstatic 50, 3) := by decide +kernel
theorem d1_87 : decode prog_6_method_4_code 87 = .ok (.if_acmp .ne 9, 3) := by decide +kernel
theorem d1_90 : decode prog_6_method_4_code 90 = .ok (.getstatic 50, 3) := by decide +kernel
theorem d1_93 : decode prog_6_method_4_code 93 = .ok (.goto 19, 3) := by decide +kernel
theorem d1_96 : decode prog_6_method_4_code 96 = .ok (.getstatic 53, 3) := by decide +kernel
theorem d1_99 : decode prog_6_method_4_code 99 = .ok (.goto 13, 3) := by decide +kernel
theorem pn_0 : plainName "com/example/tributary/tributary/InheritanceTypeCombinePinLaw" = true := by first | (simp [plainName, overriddenIn]; done) | decide +kernel
theorem own_split3 {x : Int32} (h0 : 0 ≤ x.toInt) (h1 : x.toInt < 3) : x = (0 : Int32) ∨ x = (1 : Int32) ∨ x = (2 : Int32) := by
  have h : x.toInt = 0 ∨ x.toInt = 1 ∨ x.toInt = 2 := by omega
  rcases h with h | h | h
  · exact Or.inl (Int32.toInt_inj.mp (h.trans (by decide)))
  · exact Or.inr (Or.inl (Int32.toInt_inj.mp (h.trans (by decide))))
  · exact Or.inr (Or.inr (Int32.toInt_inj.mp (h.trans (by decide))))
set_option maxRecDepth 65536 in
set_option maxHeartbeats 40000000 in
theorem pc0_pre {p : Program} {l : Launch} {e : Env} {s : State} {m : MethodId} {args : Array Value} {below : List Frame} {meth : Method} {c : Code} {T0 : State} {locs : List Loc} {Z : State} {a0 : Array Value} {h0 : Heap} {n0 : Nat} (p1 : Int32) (p2 : Int32) (p3 : Int32) (t : Int32) (q : Int32) (r : Int32) (w_CHILD_OVERRIDES : Addr) (w_PARENT_OVERRIDES : Addr) (w_AND_BOTH_PERMIT : Addr) (w_PERMIT : Addr) (w_DENY : Addr) (w_INDETERMINATE : Addr)
    (X0 : Stand p l e room_1 s m args below meth c T0 locs 0 0) (hx : p.tables.exec = Jvm.exec) (hZ : Z.Warmed39 s.vm) (hw : ∀ d ∈ tables_1, d.before a0 Z = true) (hby : c.code = code) (hml : c.maxLocals = 10) (hown : s.vm.findClass "com/example/tributary/tributary/InheritanceTypeCombinePinLaw" = some m.cls) (e0 : T0.heap = h0) (Z0 : n0 ≤ h0.size) (N0 : Fr n0 locs) (ht : ((p1 &&& (2147483647 : Int32)) % (3 : Int32)) = t) (hq : ((p2 &&& (2147483647 : Int32)) % (3 : Int32)) = q) (hr0 : ((p3 &&& (2147483647 : Int32)) % (3 : Int32)) = r) (S_CHILD_OVERRIDES : Sta Z h0 "com/example/tributary/tributary/AccessList$InheritanceType" "CHILD_OVERRIDES" "Lcom/example/tributary/tributary/AccessList$InheritanceType;" (.ref w_CHILD_OVERRIDES)) (E_w_CHILD_OVERRIDES : Exa Z h0 w_CHILD_OVERRIDES "com/example/tributary/tributary/AccessList$InheritanceType") (S_PARENT_OVERRIDES : Sta Z h0 "com/example/tributary/tributary/AccessList$InheritanceType" "PARENT_OVERRIDES" "Lcom/example/tributary/tributary/AccessList$InheritanceType;" (.ref w_PARENT_OVERRIDES)) (E_w_PARENT_OVERRIDES : Exa Z h0 w_PARENT_OVERRIDES "com/example/tributary/tributary/AccessList$InheritanceType") (S_AND_BOTH_PERMIT : Sta Z h0 "com/example/tributary/tributary/AccessList$InheritanceType" "AND_BOTH_PERMIT" "Lcom/example/tributary/tributary/AccessList$InheritanceType;" (.ref w_AND_BOTH_PERMIT)) (E_w_AND_BOTH_PERMIT : Exa Z h0 w_AND_BOTH_PERMIT "com/example/tributary/tributary/AccessList$InheritanceType") (S_PERMIT : Sta Z h0 "com/example/tributary/tributary/AccessList$Decision" "PERMIT" "Lcom/example/tributary/tributary/AccessList$Decision;" (.ref w_PERMIT)) (E_w_PERMIT : Exa Z h0 w_PERMIT "com/example/tributary/tributary/AccessList$Decision") (S_DENY : Sta Z h0 "com/example/tributary/tributary/AccessList$Decision" "DENY" "Lcom/example/tributary/tributary/AccessList$Decision;" (.ref w_DENY)) (E_w_DENY : Exa Z h0 w_DENY "com/example/tributary/tributary/AccessList$Decision") (S_INDETERMINATE : Sta Z h0 "com/example/tributary/tributary/AccessList$Decision" "INDETERMINATE" "Lcom/example/tributary/tributary/AccessList$Decision;" (.ref w_INDETERMINATE)) (E_w_INDETERMINATE : Exa Z h0 w_INDETERMINATE "com/example/tributary/tributary/AccessList$Decision") :
    ∃ (T' : State) (h' : Heap) (L' : List Loc) (b1 : Addr) (b8 : Addr) (b15 : Addr) (k1 : ClassId) (k8 : ClassId) (k15 : ClassId), Stand p l e room_1 s m args below meth c T' L' 3 33 ∧ T'.heap = h' ∧ Keep h0 h' [] ∧ Fr n0 L' ∧ h0.size ≤ b1 ∧ h0.size ≤ b8 ∧ h0.size ≤ b15 ∧ Arv Z h' b1 k1 (.object "com/example/tributary/tributary/AccessList$InheritanceType") (3 : Int32) [(.ref w_CHILD_OVERRIDES), (.ref w_PARENT_OVERRIDES), (.ref w_AND_BOTH_PERMIT)] .null ∧ Ovr Z k1 "com/example/tributary/tributary/AccessList$InheritanceType" ∧ Arv Z h' b8 k8 (.object "com/example/tributary/tributary/AccessList$Decision") (3 : Int32) [(.ref w_PERMIT), (.ref w_DENY), (.ref w_INDETERMINATE)] .null ∧ Ovr Z k8 "com/example/tributary/tributary/AccessList$Decision" ∧ Arv Z h' b15 k15 .int (27 : Int32) [(.int 0), (.int 1), (.int 0), (.int 0), (.int 1), (.int 1), (.int 0), (.int 1), (.int 2), (.int 0), (.int 0), (.int 0), (.int 1), (.int 1), (.int 1), (.int 0), (.int 1), (.int 2), (.int 0), (.int 1), (.int 1), (.int 1), (.int 1), (.int 1), (.int 1), (.int 1), (.int 1)] (.int (0 : Int32)) ∧ ∀ target, Steps p.tables e below (T'.setTop (mkF m 206 #[.val (.int p1), .val (.int p2), .val (.int p3), .val (.int t), .val (.int q), .val (.int r), .val (.ref b1), .val (.ref b8), .val (.ref b15), .unset] [])) target → Steps p.tables e below (T0.setTop (mkF m 0 #[.val (.int p1), .val (.int p2), .val (.int p3), .unset, .unset, .unset, .unset, .unset, .unset, .unset] [])) target := by
  obtain ⟨T1, h1, k1, X1, e1, E1, A1, O1, st1⟩ := newR X0 hx hZ hown (hw _ (List.mem_of_getElem? (i := 1) rfl)) (hw _ (List.mem_of_getElem? (i := 2) rfl)) e0 (g := (mkF m 24 #[.val (.int p1), .val (.int p2), .val (.int p3), .val (.int t), .val (.int q), .val (.int r), .unset, .unset, .unset, .unset] [(.int 3)])) rfl (hb hby at_24) rfl (by decide) (cap := 3) (by decide) (by decide) (by decide) (by decide)
  obtain ⟨b1, g1⟩ : ∃ z, z = h0.size := ⟨_, rfl⟩
  have s_b1 : h0.size ≤ b1 := Nat.le_of_eq g1.symm
  have g_b1 : n0 ≤ b1 := Nat.le_trans Z0 s_b1
  have sz_b1 : h0.size ≤ b1 := s_b1
  rw [← g1] at A1 st1
  have K1 : Keep h0 h1 [] := (Keep.refl h0 []).ext E1
  have V_b1 : Arv Z h1 b1 k1 (.object "com/example/tributary/tributary/AccessList$InheritanceType") (3 : Int32) [.null, .null, .null] .null := (Arv.new A1 (by decide)).pad (pad_rep [] .null 3)
  obtain ⟨T2, X2, e2, st2⟩ := getS2 X1 hx hZ hown (host := "") (Or.inl (hw _ (List.mem_of_getElem? (i := 3) rfl))) Via.refl e1 (own_sta_keep S_CHILD_OVERRIDES K1) (g := (mkF m 29 #[.val (.int p1), .val (.int p2), .val (.int p3), .val (.int t), .val (.int q), .val (.int r), .unset, .unset, .unset, .unset] [(.int 0), (.ref b1), (.ref b1)])) rfl (hb hby at_29)
  obtain ⟨T3, h3, X3, e3, W3, Vw3, st3⟩ := own_stR X2 hx hZ e2 V_b1 O1 (Ins.self (E_w_CHILD_OVERRIDES.keep K1)) 0 rfl ⟨by decide, by decide⟩ (Nat.le_of_ble_eq_true rfl) (g := (mkF m 32 #[.val (.int p1), .val (.int p2), .val (.int p3), .val (.int t), .val (.int q), .val (.int r), .unset, .unset, .unset, .unset] [(.ref w_CHILD_OVERRIDES), (.int 0), (.ref b1), (.ref b1)])) rfl rfl (hb hby at_32)
  have N3 := Fr.snoc X3 N0 g_b1
  have K3 : Keep h0 h3 [] := K1.wr W3 (Or.inr sz_b1)
  have V3_b1 : Arv Z h3 b1 k1 (.object "com/example/tributary/tributary/AccessList$InheritanceType") (3 : Int32) [(.ref w_CHILD_OVERRIDES), .null, .null] .null := Vw3
  obtain ⟨T4, X4, e4, st4⟩ := getS2 X3 hx hZ hown (host := "") (Or.inl (hw _ (List.mem_of_getElem? (i := 7) rfl))) Via.refl e3 (own_sta_keep S_PARENT_OVERRIDES K3) (g := (mkF m 35 #[.val (.int p1), .val (.int p2), .val (.int p3), .val (.int t), .val (.int q), .val (.int r), .unset, .unset, .unset, .unset] [(.int 1), (.ref b1), (.ref b1)])) rfl (hb hby at_35)
  obtain ⟨T5, h5, X5, e5, W5, Vw5, st5⟩ := own_stR X4 hx hZ e4 V3_b1 O1 (Ins.self (E_w_PARENT_OVERRIDES.keep K3)) 1 rfl ⟨by decide, by decide⟩ (Nat.le_of_ble_eq_true rfl) (g := (mkF m 38 #[.val (.int p1), .val (.int p2), .val (.int p3), .val (.int t), .val (.int q), .val (.int r), .unset, .unset, .unset, .unset] [(.ref w_PARENT_OVERRIDES), (.int 1), (.ref b1), (.ref b1)])) rfl rfl (hb hby at_38)
  have N5 := Fr.snoc X5 N3 g_b1
  have K5 : Keep h0 h5 [] := K3.wr W5 (Or.inr sz_b1)
  have V5_b1 : Arv Z h5 b1 k1 (.object "com/example/tributary/tributary/AccessList$InheritanceType") (3 : Int32) [(.ref w_CHILD_OVERRIDES), (.ref w_PARENT_OVERRIDES), .null] .null := Vw5
  obtain ⟨T6, X6, e6, st6⟩ := getS2 X5 hx hZ hown (host := "") (Or.inl (hw _ (List.mem_of_getElem? (i := 9) rfl))) Via.refl e5 (own_sta_keep S_AND_BOTH_PERMIT K5) (g := (mkF m 41 #[.val (.int p1), .val (.int p2), .val (.int p3), .val (.int t), .val (.int q), .val (.int r), .unset, .unset, .unset, .unset] [(.int 2), (.ref b1), (.ref b1)])) rfl (hb hby at_41)
  obtain ⟨T7, h7, X7, e7, W7, Vw7, st7⟩ := own_stR X6 hx hZ e6 V5_b1 O1 (Ins.self (E_w_AND_BOTH_PERMIT.keep K5)) 2 rfl ⟨by decide, by decide⟩ (Nat.le_of_ble_eq_true rfl) (g := (mkF m 44 #[.val (.int p1), .val (.int p2), .val (.int p3), .val (.int t), .val (.int q), .val (.int r), .unset, .unset, .unset, .unset] [(.ref w_AND_BOTH_PERMIT), (.int 2), (.ref b1), (.ref b1)])) rfl rfl (hb hby at_44)
  have N7 := Fr.snoc X7 N5 g_b1
  have K7 : Keep h0 h7 [] := K5.wr W7 (Or.inr sz_b1)
  have V7_b1 : Arv Z h7 b1 k1 (.object "com/example/tributary/tributary/AccessList$InheritanceType") (3 : Int32) [(.ref w_CHILD_OVERRIDES), (.ref w_PARENT_OVERRIDES), (.ref w_AND_BOTH_PERMIT)] .null := Vw7
  obtain ⟨T8, h8, k8, X8, e8, E8, A8, O8, st8⟩ := newR X7 hx hZ hown (hw _ (List.mem_of_getElem? (i := 11) rfl)) (hw _ (List.mem_of_getElem? (i := 12) rfl)) e7 (g := (mkF m 48 #[.val (.int p1), .val (.int p2), .val (.int p3), .val (.int t), .val (.int q), .val (.int r), .val (.ref b1), .unset, .unset, .unset] [(.int 3)])) rfl (hb hby at_48) rfl (by decide) (cap := 3) (by decide) (by decide) (by decide) (by decide)
  obtain ⟨b8, g8⟩ : ∃ z, z = h7.size := ⟨_, rfl⟩
  have s_b8 : h7.size ≤ b8 := Nat.le_of_eq g8.symm
  have g_b8 : n0 ≤ b8 := Nat.le_trans (Nat.le_trans Z0 K7.1) s_b8
  have sz_b8 : h0.size ≤ b8 := Nat.le_trans K7.1 s_b8
  rw [← g8] at A8 st8
  have K8 : Keep h0 h8 [] := K7.ext E8
  have V_b8 : Arv Z h8 b8 k8 (.object "com/example/tributary/tributary/AccessList$Decision") (3 : Int32) [.null, .null, .null] .null := (Arv.new A8 (by decide)).pad (pad_rep [] .null 3)
  obtain ⟨T9, X9, e9, st9⟩ := getS2 X8 hx hZ hown (host := "") (Or.inl (hw _ (List.mem_of_getElem? (i := 13) rfl))) Via.refl e8 (own_sta_keep S_PERMIT K8) (g := (mkF m 53 #[.val (.int p1), .val (.int p2), .val (.int p3), .val (.int t), .val (.int q), .val (.int r), .val (.ref b1), .unset, .unset, .unset] [(.int 0), (.ref b8), (.ref b8)])) rfl (hb hby at_53)
  obtain ⟨T10, h10, X10, e10, W10, Vw10, st10⟩ := own_stR X9 hx hZ e9 V_b8 O8 (Ins.self (E_w_PERMIT.keep K8)) 0 rfl ⟨by decide, by decide⟩ (Nat.le_of_ble_eq_true rfl) (g := (mkF m 56 #[.val (.int p1), .val (.int p2), .val (.int p3), .val (.int t), .val (.int q), .val (.int r), .val (.ref b1), .unset, .unset, .unset] [(.ref w_PERMIT), (.int 0), (.ref b8), (.ref b8)])) rfl rfl (hb hby at_56)
  have N10 := Fr.snoc X10 N7 g_b8
  have K10 : Keep h0 h10 [] := K8.wr W10 (Or.inr sz_b8)
  have V10_b8 : Arv Z h10 b8 k8 (.object "com/example/tributary/tributary/AccessList$Decision") (3 : Int32) [(.ref w_PERMIT), .null, .null] .null := Vw10
  obtain ⟨T11, X11, e11, st11⟩ := getS2 X10 hx hZ hown (host := "") (Or.inl (hw _ (List.mem_of_getElem? (i := 17) rfl))) Via.refl e10 (own_sta_keep S_DENY K10) (g := (mkF m 59 #[.val (.int p1), .val (.int p2), .val (.int p3), .val (.int t), .val (.int q), .val (.int r), .val (.ref b1), .unset, .unset, .unset] [(.int 1), (.ref b8), (.ref b8)])) rfl (hb hby at_59)
  obtain ⟨T12, h12, X12, e12, W12, Vw12, st12⟩ := own_stR X11 hx hZ e11 V10_b8 O8 (Ins.self (E_w_DENY.keep K10)) 1 rfl ⟨by decide, by decide⟩ (Nat.le_of_ble_eq_true rfl) (g := (mkF m 62 #[.val (.int p1), .val (.int p2), .val (.int p3), .val (.int t), .val (.int q), .val (.int r), .val (.ref b1), .unset, .unset, .unset] [(.ref w_DENY), (.int 1), (.ref b8), (.ref b8)])) rfl rfl (hb hby at_62)
  have N12 := Fr.snoc X12 N10 g_b8
  have K12 : Keep h0 h12 [] := K10.wr W12 (Or.inr sz_b8)
  have V12_b8 : Arv Z h12 b8 k8 (.object "com/example/tributary/tributary/AccessList$Decision") (3 : Int32) [(.ref w_PERMIT), (.ref w_DENY), .null] .null := Vw12
  obtain ⟨T13, X13, e13, st13⟩ := getS2 X12 hx hZ hown (host := "") (Or.inl (hw _ (List.mem_of_getElem? (i := 19) rfl))) Via.refl e12 (own_sta_keep S_INDETERMINATE K12) (g := (mkF m 65 #[.val (.int p1), .val (.int p2), .val (.int p3), .val (.int t), .val (.int q), .val (.int r), .val (.ref b1), .unset, .unset, .unset] [(.int 2), (.ref b8), (.ref b8)])) rfl (hb hby at_65)
  obtain ⟨T14, h14, X14, e14, W14, Vw14, st14⟩ := own_stR X13 hx hZ e13 V12_b8 O8 (Ins.self (E_w_INDETERMINATE.keep K12)) 2 rfl ⟨by decide, by decide⟩ (Nat.le_of_ble_eq_true rfl) (g := (mkF m 68 #[.val (.int p1), .val (.int p2), .val (.int p3), .val (.int t), .val (.int q), .val (.int r), .val (.ref b1), .unset, .unset, .unset] [(.ref w_INDETERMINATE), (.int 2), (.ref b8), (.ref b8)])) rfl rfl (hb hby at_68)
  have N14 := Fr.snoc X14 N12 g_b8
  have K14 : Keep h0 h14 [] := K12.wr W14 (Or.inr sz_b8)
  have V14_b8 : Arv Z h14 b8 k8 (.object "com/example/tributary/tributary/AccessList$Decision") (3 : Int32) [(.ref w_PERMIT), (.ref w_DENY), (.ref w_INDETERMINATE)] .null := Vw14
  obtain ⟨T15, h15, k15, X15, e15, E15, A15, st15⟩ := newP X14 hx hZ (hw _ (List.mem_of_getElem? (i := 21) rfl)) e14 (g := (mkF m 73 #[.val (.int p1), .val (.int p2), .val (.int p3), .val (.int t), .val (.int q), .val (.int r), .val (.ref b1), .val (.ref b8), .unset, .unset] [(.int 27)])) rfl (hb hby at_73) rfl (by decide) (cap := 27) (by decide) (by decide) (by decide) (by decide)
  obtain ⟨b15, g15⟩ : ∃ z, z = h14.size := ⟨_, rfl⟩
  have s_b15 : h14.size ≤ b15 := Nat.le_of_eq g15.symm
  have g_b15 : n0 ≤ b15 := Nat.le_trans (Nat.le_trans Z0 K14.1) s_b15
  have sz_b15 : h0.size ≤ b15 := Nat.le_trans K14.1 s_b15
  rw [← g15] at A15 st15
  have K15 : Keep h0 h15 [] := K14.ext E15
  have V_b15 : Arv Z h15 b15 k15 .int (27 : Int32) [(.int 0), (.int 0), (.int 0), (.int 0), (.int 0), (.int 0), (.int 0), (.int 0), (.int 0), (.int 0), (.int 0), (.int 0), (.int 0), (.int 0), (.int 0), (.int 0), (.int 0), (.int 0), (.int 0), (.int 0), (.int 0), (.int 0), (.int 0), (.int 0), (.int 0), (.int 0), (.int 0)] (.int (0 : Int32)) := (Arv.new A15 (by decide)).pad (pad_rep [] (.int (0 : Int32)) 27)
  obtain ⟨T16, h16, X16, e16, W16, Vw16, st16⟩ := own_stI X15 hx hZ e15 V_b15 0 rfl ⟨by decide, by decide⟩ (Nat.le_of_ble_eq_true rfl) (g := (mkF m 78 #[.val (.int p1), .val (.int p2), .val (.int p3), .val (.int t), .val (.int q), .val (.int r), .val (.ref b1), .val (.ref b8), .unset, .unset] [(.int 0), (.int 0), (.ref b15), (.ref b15)])) rfl rfl (hb hby at_78)
  have N16 := Fr.snoc X16 N14 g_b15
  have K16 : Keep h0 h16 [] := K15.wr W16 (Or.inr sz_b15)
  have V16_b15 : Arv Z h16 b15 k15 .int (27 : Int32) [(.int 0), (.int 0), (.int 0), (.int 0), (.int 0), (.int 0), (.int 0), (.int 0), (.int 0), (.int 0), (.int 0), (.int 0), (.int 0), (.int 0), (.int 0), (.int 0), (.int 0), (.int 0), (.int 0), (.int 0), (.int 0), (.int 0), (.int 0), (.int 0), (.int 0), (.int 0), (.int 0)] (.int (0 : Int32)) := Vw16
  obtain ⟨T17, h17, X17, e17, W17, Vw17, st17⟩ := own_stI X16 hx hZ e16 V16_b15 1 rfl ⟨by decide, by decide⟩ (Nat.le_of_ble_eq_true rfl) (g := (mkF m 82 #[.val (.int p1), .val (.int p2), .val (.int p3), .val (.int t), .val (.int q), .val (.int r), .val (.ref b1), .val (.ref b8), .unset, .unset] [(.int 1), (.int 1), (.ref b15), (.ref b15)])) rfl rfl (hb hby at_82)
  have N17 := Fr.snoc X17 N16 g_b15
  have K17 : Keep h0 h17 [] := K16.wr W17 (Or.inr sz_b15)
  have V17_b15 : Arv Z h17 b15 k15 .int (27 : Int32) [(.int 0), (.int 1), (.int 0), (.int 0), (.int 0), (.int 0), (.int 0), (.int 0), (.int 0), (.int 0), (.int 0), (.int 0), (.int 0), (.int 0), (.int 0), (.int 0), (.int 0), (.int 0), (.int 0), (.int 0), (.int 0), (.int 0), (.int 0), (.int 0), (.int 0), (.int 0), (.int 0)] (.int (0 : Int32)) := Vw17
  obtain ⟨T18, h18, X18, e18, W18, Vw18, st18⟩ := own_stI X17 hx hZ e17 V17_b15 2 rfl ⟨by decide, by decide⟩ (Nat.le_of_ble_eq_true rfl) (g := (mkF m 86 #[.val (.int p1), .val (.int p2), .val (.int p3), .val (.int t), .val (.int q), .val (.int r), .val (.ref b1), .val (.ref b8), .unset, .unset] [(.int 0), (.int 2), (.ref b15), (.ref b15)])) rfl rfl (hb hby at_86)
  have N18 := Fr.snoc X18 N17 g_b15
  have K18 : Keep h0 h18 [] := K17.wr W18 (Or.inr sz_b15)
  have V18_b15 : Arv Z h18 b15 k15 .int (27 : Int32) [(.int 0), (.int 1), (.int 0), (.int 0), (.int 0), (.int 0), (.int 0), (.int 0), (.int 0), (.int 0), (.int 0), (.int 0), (.int 0), (.int 0), (.int 0), (.int 0), (.int 0), (.int 0), (.int 0), (.int 0), (.int 0), (.int 0), (.int 0), (.int 0), (.int 0), (.int 0), (.int 0)] (.int (0 : Int32)) := Vw18
  obtain ⟨T19, h19, X19, e19, W19, Vw19, st19⟩ := own_stI X18 hx hZ e18 V18_b15 3 rfl ⟨by decide, by decide⟩ (Nat.le_of_ble_eq_true rfl) (g := (mkF m 90 #[.val (.int p1), .val (.int p2), .val (.int p3), .val (.int t), .val (.int q), .val (.int r), .val (.ref b1), .val (.ref b8), .unset, .unset] [(.int 0), (.int 3), (.ref b15), (.ref b15)])) rfl rfl (hb hby at_90)
  have N19 := Fr.snoc X19 N18 g_b15
  have K19 : Keep h0 h19 [] := K18.wr W19 (Or.inr sz_b15)
  have V19_b15 : Arv Z h19 b15 k15 .int (27 : Int32) [(.int 0), (.int 1), (.int 0), (.int 0), (.int 0), (.int 0), (.int 0), (.int 0), (.int 0), (.int 0), (.int 0), (.int 0), (.int 0), (.int 0), (.int 0), (.int 0), (.int 0), (.int 0), (.int 0), (.int 0), (.int 0), (.int 0), (.int 0), (.int 0), (.int 0), (.int 0), (.int 0)] (.int (0 : Int32)) := Vw19
  obtain ⟨T20, h20, X20, e20, W20, Vw20, st20⟩ := own_stI X19 hx hZ e19 V19_b15 4 rfl ⟨by decide, by decide⟩ (Nat.le_of_ble_eq_true rfl) (g := (mkF m 94 #[.val (.int p1), .val (.int p2), .val (.int p3), .val (.int t), .val (.int q), .val (.int r), .val (.ref b1), .val (.ref b8), .unset, .unset] [(.int 1), (.int 4), (.ref b15), (.ref b15)])) rfl rfl (hb hby at_94)
  have N20 := Fr.snoc X20 N19 g_b15
  have K20 : Keep h0 h20 [] := K19.wr W20 (Or.inr sz_b15)
  have V20_b15 : Arv Z h20 b15 k15 .int (27 : Int32) [(.int 0), (.int 1), (.int 0), (.int 0), (.int 1), (.int 0), (.int 0), (.int 0), (.int 0), (.int 0), (.int 0), (.int 0), (.int 0), (.int 0), (.int 0), (.int 0), (.int 0), (.int 0), (.int 0), (.int 0), (.int 0), (.int 0), (.int 0), (.int 0), (.int 0), (.int 0), (.int 0)] (.int (0 : Int32)) := Vw20
  obtain ⟨T21, h21, X21, e21, W21, Vw21, st21⟩ := own_stI X20 hx hZ e20 V20_b15 5 rfl ⟨by decide, by decide⟩ (Nat.le_of_ble_eq_true rfl) (g := (mkF m 98 #[.val (.int p1), .val (.int p2), .val (.int p3), .val (.int t), .val (.int q), .val (.int r), .val (.ref b1), .val (.ref b8), .unset, .unset] [(.int 1), (.int 5), (.ref b15), (.ref b15)])) rfl rfl (hb hby at_98)
  have N21 := Fr.snoc X21 N20 g_b15
  have K21 : Keep h0 h21 [] := K20.wr W21 (Or.inr sz_b15)
  have V21_b15 : Arv Z h21 b15 k15 .int (27 : Int32) [(.int 0), (.int 1), (.int 0), (.int 0), (.int 1), (.int 1), (.int 0), (.int 0), (.int 0), (.int 0), (.int 0), (.int 0), (.int 0), (.int 0), (.int 0), (.int 0), (.int 0), (.int 0), (.int 0), (.int 0), (.int 0), (.int 0), (.int 0), (.int 0), (.int 0), (.int 0), (.int 0)] (.int (0 : Int32)) := Vw21
  obtain ⟨T22, h22, X22, e22, W22, Vw22, st22⟩ := own_stI X21 hx hZ e21 V21_b15 6 rfl ⟨by decide, by decide⟩ (Nat.le_of_ble_eq_true rfl) (g := (mkF m 103 #[.val (.int p1), .val (.int p2), .val (.int p3), .val (.int t), .val (.int q), .val (.int r), .val (.ref b1), .val (.ref b8), .unset, .unset] [(.int 0), (.int 6), (.ref b15), (.ref b15)])) rfl rfl (hb hby at_103)
  have N22 := Fr.snoc X22 N21 g_b15
  have K22 : Keep h0 h22 [] := K21.wr W22 (Or.inr sz_b15)
  have V22_b15 : Arv Z h22 b15 k15 .int (27 : Int32) [(.int 0), (.int 1), (.int 0), (.int 0), (.int 1), (.int 1), (.int 0), (.int 0), (.int 0), (.int 0), (.int 0), (.int 0), (.int 0), (.int 0), (.int 0), (.int 0), (.int 0), (.int 0), (.int 0), (.int 0), (.int 0), (.int 0), (.int 0), (.int 0), (.int 0), (.int 0), (.int 0)] (.int (0 : Int32)) := Vw22
  obtain ⟨T23, h23, X23, e23, W23, Vw23, st23⟩ := own_stI X22 hx hZ e22 V22_b15 7 rfl ⟨by decide, by decide⟩ (Nat.le_of_ble_eq_true rfl) (g := (mkF m 108 #[.val (.int p1), .val (.int p2), .val (.int p3), .val (.int t), .val (.int q), .val (.int r), .val (.ref b1), .val (.ref b8), .unset, .unset] [(.int 1), (.int 7), (.ref b15), (.ref b15)])) rfl rfl (hb hby at_108)
  have N23 := Fr.snoc X23 N22 g_b15
  have K23 : Keep h0 h23 [] := K22.wr W23 (Or.inr sz_b15)
  have V23_b15 : Arv Z h23 b15 k15 .int (27 : Int32) [(.int 0), (.int 1), (.int 0), (.int 0), (.int 1), (.int 1), (.int 0), (.int 1), (.int 0), (.int 0), (.int 0), (.int 0), (.int 0), (.int 0), (.int 0), (.int 0), (.int 0), (.int 0), (.int 0), (.int 0), (.int 0), (.int 0), (.int 0), (.int 0), (.int 0), (.int 0), (.int 0)] (.int (0 : Int32)) := Vw23
  obtain ⟨T24, h24, X24, e24, W24, Vw24, st24⟩ := own_stI X23 hx hZ e23 V23_b15 8 rfl ⟨by decide, by decide⟩ (Nat.le_of_ble_eq_true rfl) (g := (mkF m 113 #[.val (.int p1), .val (.int p2), .val (.int p3), .val (.int t), .val (.int q), .val (.int r), .val (.ref b1), .val (.ref b8), .unset, .unset] [(.int 2), (.int 8), (.ref b15), (.ref b15)])) rfl rfl (hb hby at_113)
  have N24 := Fr.snoc X24 N23 g_b15
  have K24 : Keep h0 h24 [] := K23.wr W24 (Or.inr sz_b15)
  have V24_b15 : Arv Z h24 b15 k15 .int (27 : Int32) [(.int 0), (.int 1), (.int 0), (.int 0), (.int 1), (.int 1), (.int 0), (.int 1), (.int 2), (.int 0), (.int 0), (.int 0), (.int 0), (.int 0), (.int 0), (.int 0), (.int 0), (.int 0), (.int 0), (.int 0), (.int 0), (.int 0), (.int 0), (.int 0), (.int 0), (.int 0), (.int 0)] (.int (0 : Int32)) := Vw24
  obtain ⟨T25, h25, X25, e25, W25, Vw25, st25⟩ := own_stI X24 hx hZ e24 V24_b15 9 rfl ⟨by decide, by decide⟩ (Nat.le_of_ble_eq_true rfl) (g := (mkF m 118 #[.val (.int p1), .val (.int p2), .val (.int p3), .val (.int t), .val (.int q), .val (.int r), .val (.ref b1), .val (.ref b8), .unset, .unset] [(.int 0), (.int 9), (.ref b15), (.ref b15)])) rfl rfl (hb hby at_118)
  have N25 := Fr.snoc X25 N24 g_b15
  have K25 : Keep h0 h25 [] := K24.wr W25 (Or.inr sz_b15)
  have V25_b15 : Arv Z h25 b15 k15 .int (27 : Int32) [(.int 0), (.int 1), (.int 0), (.int 0), (.int 1), (.int 1), (.int 0), (.int 1), (.int 2), (.int 0), (.int 0), (.int 0), (.int 0), (.int 0), (.int 0), (.int 0), (.int 0), (.int 0), (.int 0), (.int 0), (.int 0), (.int 0), (.int 0), (.int 0), (.int 0), (.int 0), (.int 0)] (.int (0 : Int32)) := Vw25
  obtain ⟨T26, h26, X26, e26, W26, Vw26, st26⟩ := own_stI X25 hx hZ e25 V25_b15 10 rfl ⟨by decide, by decide⟩ (Nat.le_of_ble_eq_true rfl) (g := (mkF m 123 #[.val (.int p1), .val (.int p2), .val (.int p3), .val (.int t), .val (.int q), .val (.int r), .val (.ref b1), .val (.ref b8), .unset, .unset] [(.int 0), (.int 10), (.ref b15), (.ref b15)])) rfl rfl (hb hby at_123)
  have N26 := Fr.snoc X26 N25 g_b15
  have K26 : Keep h0 h26 [] := K25.wr W26 (Or.inr sz_b15)
  have V26_b15 : Arv Z h26 b15 k15 .int (27 : Int32) [(.int 0), (.int 1), (.int 0), (.int 0), (.int 1), (.int 1), (.int 0), (.int 1), (.int 2), (.int 0), (.int 0), (.int 0), (.int 0), (.int 0), (.int 0), (.int 0), (.int 0), (.int 0), (.int 0), (.int 0), (.int 0), (.int 0), (.int 0), (.int 0), (.int 0), (.int 0), (.int 0)] (.int (0 : Int32)) := Vw26
  obtain ⟨T27, h27, X27, e27, W27, Vw27, st27⟩ := own_stI X26 hx hZ e26 V26_b15 11 rfl ⟨by decide, by decide⟩ (Nat.le_of_ble_eq_true rfl) (g := (mkF m 128 #[.val (.int p1), .val (.int p2), .val (.int p3), .val (.int t), .val (.int q), .val (.int r), .val (.ref b1), .val (.ref b8), .unset, .unset] [(.int 0), (.int 11), (.ref b15), (.ref b15)])) rfl rfl (hb hby at_128)
  have N27 := Fr.snoc X27 N26 g_b15
  have K27 : Keep h0 h27 [] := K26.wr W27 (Or.inr sz_b15)
  have V27_b15 : Arv Z h27 b15 k15 .int (27 : Int32) [(.int 0), (.int 1), (.int 0), (.int 0), (.int 1), (.int 1), (.int 0), (.int 1), (.int 2), (.int 0), (.int 0), (.int 0), (.int 0), (.int 0), (.int 0), (.int 0), (.int 0), (.int 0), (.int 0), (.int 0), (.int 0), (.int 0), (.int 0), (.int 0), (.int 0), (.int 0), (.int 0)] (.int (0 : Int32)) := Vw27
  obtain ⟨T28, h28, X28, e28, W28, Vw28, st28⟩ := own_stI X27 hx hZ e27 V27_b15 12 rfl ⟨by decide, by decide⟩ (Nat.le_of_ble_eq_true rfl) (g := (mkF m 133 #[.val (.int p1), .val (.int p2), .val (.int p3), .val (.int t), .val (.int q), .val (.int r), .val (.ref b1), .val (.ref b8), .unset, .unset] [(.int 1), (.int 12), (.ref b15), (.ref b15)])) rfl rfl (hb hby at_133)
  have N28 := Fr.snoc X28 N27 g_b15
  have K28 : Keep h0 h28 [] := K27.wr W28 (Or.inr sz_b15)
  have V28_b15 : Arv Z h28 b15 k15 .int (27 : Int32) [(.int 0), (.int 1), (.int 0), (.int 0), (.int 1), (.int 1), (.int 0), (.int 1), (.int 2), (.int 0), (.int 0), (.int 0), (.int 1), (.int 0), (.int 0), (.int 0), (.int 0), (.int 0), (.int 0), (.int 0), (.int 0), (.int 0), (.int 0), (.int 0), (.int 0), (.int 0), (.int 0)] (.int (0 : Int32)) := Vw28
  obtain ⟨T29, h29, X29, e29, W29, Vw29, st29⟩ := own_stI X28 hx hZ e28 V28_b15 13 rfl ⟨by decide, by decide⟩ (Nat.le_of_ble_eq_true rfl) (g := (mkF m 138 #[.val (.int p1), .val (.int p2), .val (.int p3), .val (.int t), .val (.int q), .val (.int r), .val (.ref b1), .val (.ref b8), .unset, .unset] [(.int 1), (.int 13), (.ref b15), (.ref b15)])) rfl rfl (hb hby at_138)
  have N29 := Fr.snoc X29 N28 g_b15
  have K29 : Keep h0 h29 [] := K28.wr W29 (Or.inr sz_b15)
  have V29_b15 : Arv Z h29 b15 k15 .int (27 : Int32) [(.int 0), (.int 1), (.int 0), (.int 0), (.int 1), (.int 1), (.int 0), (.int 1), (.int 2), (.int 0), (.int 0), (.int 0), (.int 1), (.int 1), (.int 0), (.int 0), (.int 0), (.int 0), (.int 0), (.int 0), (.int 0), (.int 0), (.int 0), (.int 0), (.int 0), (.int 0), (.int 0)] (.int (0 : Int32)) := Vw29
  obtain ⟨T30, h30, X30, e30, W30, Vw30, st30⟩ := own_stI X29 hx hZ e29 V29_b15 14 rfl ⟨by decide, by decide⟩ (Nat.le_of_ble_eq_true rfl) (g := (mkF m 143 #[.val (.int p1), .val (.int p2), .val (.int p3), .val (.int t), .val (.int q), .val (.int r), .val (.ref b1), .val (.ref b8), .unset, .unset] [(.int 1), (.int 14), (.ref b15), (.ref b15)])) rfl rfl (hb hby at_143)
  have N30 := Fr.snoc X30 N29 g_b15
  have K30 : Keep h0 h30 [] := K29.wr W30 (Or.inr sz_b15)
  have V30_b15 : Arv Z h30 b15 k15 .int (27 : Int32) [(.int 0), (.int 1), (.int 0), (.int 0), (.int 1), (.int 1), (.int 0), (.int 1), (.int 2), (.int 0), (.int 0), (.int 0), (.int 1), (.int 1), (.int 1), (.int 0), (.int 0), (.int 0), (.int 0), (.int 0), (.int 0), (.int 0), (.int 0), (.int 0), (.int 0), (.int 0), (.int 0)] (.int (0 : Int32)) := Vw30
  obtain ⟨T31, h31, X31, e31, W31, Vw31, st31⟩ := own_stI X30 hx hZ e30 V30_b15 15 rfl ⟨by decide, by decide⟩ (Nat.le_of_ble_eq_true rfl) (g := (mkF m 148 #[.val (.int p1), .val (.int p2), .val (.int p3), .val (.int t), .val (.int q), .val (.int r), .val (.ref b1), .val (.ref b8), .unset, .unset] [(.int 0), (.int 15), (.ref b15), (.ref b15)])) rfl rfl (hb hby at_148)
  have N31 := Fr.snoc X31 N30 g_b15
  have K31 : Keep h0 h31 [] := K30.wr W31 (Or.inr sz_b15)
  have V31_b15 : Arv Z h31 b15 k15 .int (27 : Int32) [(.int 0), (.int 1), (.int 0), (.int 0), (.int 1), (.int 1), (.int 0), (.int 1), (.int 2), (.int 0), (.int 0), (.int 0), (.int 1), (.int 1), (.int 1), (.int 0), (.int 0), (.int 0), (.int 0), (.int 0), (.int 0), (.int 0), (.int 0), (.int 0), (.int 0), (.int 0), (.int 0)] (.int (0 : Int32)) := Vw31
  obtain ⟨T32, h32, X32, e32, W32, Vw32, st32⟩ := own_stI X31 hx hZ e31 V31_b15 16 rfl ⟨by decide, by decide⟩ (Nat.le_of_ble_eq_true rfl) (g := (mkF m 153 #[.val (.int p1), .val (.int p2), .val (.int p3), .val (.int t), .val (.int q), .val (.int r), .val (.ref b1), .val (.ref b8), .unset, .unset] [(.int 1), (.int 16), (.ref b15), (.ref b15)])) rfl rfl (hb hby at_153)
  have N32 := Fr.snoc X32 N31 g_b15
  have K32 : Keep h0 h32 [] := K31.wr W32 (Or.inr sz_b15)
  have V32_b15 : Arv Z h32 b15 k15 .int (27 : Int32) [(.int 0), (.int 1), (.int 0), (.int 0), (.int 1), (.int 1), (.int 0), (.int 1), (.int 2), (.int 0), (.int 0), (.int 0), (.int 1), (.int 1), (.int 1), (.int 0), (.int 1), (.int 0), (.int 0), (.int 0), (.int 0), (.int 0), (.int 0), (.int 0), (.int 0), (.int 0), (.int 0)] (.int (0 : Int32)) := Vw32
  obtain ⟨T33, h33, X33, e33, W33, Vw33, st33⟩ := own_stI X32 hx hZ e32 V32_b15 17 rfl ⟨by decide, by decide⟩ (Nat.le_of_ble_eq_true rfl) (g := (mkF m 158 #[.val (.int p1), .val (.int p2), .val (.int p3), .val (.int t), .val (.int q), .val (.int r), .val (.ref b1), .val (.ref b8), .unset, .unset] [(.int 2), (.int 17), (.ref b15), (.ref b15)])) rfl rfl (hb hby at_158)
  have N33 := Fr.snoc X33 N32 g_b15
  have K33 : Keep h0 h33 [] := K32.wr W33 (Or.inr sz_b15)
  have V33_b15 : Arv Z h33 b15 k15 .int (27 : Int32) [(.int 0), (.int 1), (.int 0), (.int 0), (.int 1), (.int 1), (.int 0), (.int 1), (.int 2), (.int 0), (.int 0), (.int 0), (.int 1), (.int 1), (.int 1), (.int 0), (.int 1), (.int 2), (.int 0), (.int 0), (.int 0), (.int 0), (.int 0), (.int 0), (.int 0), (.int 0), (.int 0)] (.int (0 : Int32)) := Vw33
  obtain ⟨T34, h34, X34, e34, W34, Vw34, st34⟩ := own_stI X33 hx hZ e33 V33_b15 18 rfl ⟨by decide, by decide⟩ (Nat.le_of_ble_eq_true rfl) (g := (mkF m 163 #[.val (.int p1), .val (.int p2), .val (.int p3), .val (.int t), .val (.int q), .val (.int r), .val (.ref b1), .val (.ref b8), .unset, .unset] [(.int 0), (.int 18), (.ref b15), (.ref b15)])) rfl rfl (hb hby at_163)
  have N34 := Fr.snoc X34 N33 g_b15
  have K34 : Keep h0 h34 [] := K33.wr W34 (Or.inr sz_b15)
  have V34_b15 : Arv Z h34 b15 k15 .int (27 : Int32) [(.int 0), (.int 1), (.int 0), (.int 0), (.int 1), (.int 1), (.int 0), (.int 1), (.int 2), (.int 0), (.int 0), (.int 0), (.int 1), (.int 1), (.int 1), (.int 0), (.int 1), (.int 2), (.int 0), (.int 0), (.int 0), (.int 0), (.int 0), (.int 0), (.int 0), (.int 0), (.int 0)] (.int (0 : Int32)) := Vw34
  obtain ⟨T35, h35, X35, e35, W35, Vw35, st35⟩ := own_stI X34 hx hZ e34 V34_b15 19 rfl ⟨by decide, by decide⟩ (Nat.le_of_ble_eq_true rfl) (g := (mkF m 168 #[.val (.int p1), .val (.int p2), .val (.int p3), .val (.int t), .val (.int q), .val (.int r), .val (.ref b1), .val (.ref b8), .unset, .unset] [(.int 1), (.int 19), (.ref b15), (.ref b15)])) rfl rfl (hb hby at_168)
  have N35 := Fr.snoc X35 N34 g_b15
  have K35 : Keep h0 h35 [] := K34.wr W35 (Or.inr sz_b15)
  have V35_b15 : Arv Z h35 b15 k15 .int (27 : Int32) [(.int 0), (.int 1), (.int 0), (.int 0), (.int 1), (.int 1), (.int 0), (.int 1), (.int 2), (.int 0), (.int 0), (.int 0), (.int 1), (.int 1), (.int 1), (.int 0), (.int 1), (.int 2), (.int 0), (.int 1), (.int 0), (.int 0), (.int 0), (.int 0), (.int 0), (.int 0), (.int 0)] (.int (0 : Int32)) := Vw35
  obtain ⟨T36, h36, X36, e36, W36, Vw36, st36⟩ := own_stI X35 hx hZ e35 V35_b15 20 rfl ⟨by decide, by decide⟩ (Nat.le_of_ble_eq_true rfl) (g := (mkF m 173 #[.val (.int p1), .val (.int p2), .val (.int p3), .val (.int t), .val (.int q), .val (.int r), .val (.ref b1), .val (.ref b8), .unset, .unset] [(.int 1), (.int 20), (.ref b15), (.ref b15)])) rfl rfl (hb hby at_173)
  have N36 := Fr.snoc X36 N35 g_b15
  have K36 : Keep h0 h36 [] := K35.wr W36 (Or.inr sz_b15)
  have V36_b15 : Arv Z h36 b15 k15 .int (27 : Int32) [(.int 0), (.int 1), (.int 0), (.int 0), (.int 1), (.int 1), (.int 0), (.int 1), (.int 2), (.int 0), (.int 0), (.int 0), (.int 1), (.int 1), (.int 1), (.int 0), (.int 1), (.int 2), (.int 0), (.int 1), (.int 1), (.int 0), (.int 0), (.int 0), (.int 0), (.int 0), (.int 0)] (.int (0 : Int32)) := Vw36
  obtain ⟨T37, h37, X37, e37, W37, Vw37, st37⟩ := own_stI X36 hx hZ e36 V36_b15 21 rfl ⟨by decide, by decide⟩ (Nat.le_of_ble_eq_true rfl) (g := (mkF m 178 #[.val (.int p1), .val (.int p2), .val (.int p3), .val (.int t), .val (.int q), .val (.int r), .val (.ref b1), .val (.ref b8), .unset, .unset] [(.int 1), (.int 21), (.ref b15), (.ref b15)])) rfl rfl (hb hby at_178)
  have N37 := Fr.snoc X37 N36 g_b15
  have K37 : Keep h0 h37 [] := K36.wr W37 (Or.inr sz_b15)
  have V37_b15 : Arv Z h37 b15 k15 .int (27 : Int32) [(.int 0), (.int 1), (.int 0), (.int 0), (.int 1), (.int 1), (.int 0), (.int 1), (.int 2), (.int 0), (.int 0), (.int 0), (.int 1), (.int 1), (.int 1), (.int 0), (.int 1), (.int 2), (.int 0), (.int 1), (.int 1), (.int 1), (.int 0), (.int 0), (.int 0), (.int 0), (.int 0)] (.int (0 : Int32)) := Vw37
  obtain ⟨T38, h38, X38, e38, W38, Vw38, st38⟩ := own_stI X37 hx hZ e37 V37_b15 22 rfl ⟨by decide, by decide⟩ (Nat.le_of_ble_eq_true rfl) (g := (mkF m 183 #[.val (.int p1), .val (.int p2), .val (.int p3), .val (.int t), .val (.int q), .val (.int r), .val (.ref b1), .val (.ref b8), .unset, .unset] [(.int 1), (.int 22), (.ref b15), (.ref b15)])) rfl rfl (hb hby at_183)
  have N38 := Fr.snoc X38 N37 g_b15
  have K38 : Keep h0 h38 [] := K37.wr W38 (Or.inr sz_b15)
  have V38_b15 : Arv Z h38 b15 k15 .int (27 : Int32) [(.int 0), (.int 1), (.int 0), (.int 0), (.int 1), (.int 1), (.int 0), (.int 1), (.int 2), (.int 0), (.int 0), (.int 0), (.int 1), (.int 1), (.int 1), (.int 0), (.int 1), (.int 2), (.int 0), (.int 1), (.int 1), (.int 1), (.int 1), (.int 0), (.int 0), (.int 0), (.int 0)] (.int (0 : Int32)) := Vw38
  obtain ⟨T39, h39, X39, e39, W39, Vw39, st39⟩ := own_stI X38 hx hZ e38 V38_b15 23 rfl ⟨by decide, by decide⟩ (Nat.le_of_ble_eq_true rfl) (g := (mkF m 188 #[.val (.int p1), .val (.int p2), .val (.int p3), .val (.int t), .val (.int q), .val (.int r), .val (.ref b1), .val (.ref b8), .unset, .unset] [(.int 1), (.int 23), (.ref b15), (.ref b15)])) rfl rfl (hb hby at_188)
  have N39 := Fr.snoc X39 N38 g_b15
  have K39 : Keep h0 h39 [] := K38.wr W39 (Or.inr sz_b15)
  have V39_b15 : Arv Z h39 b15 k15 .int (27 : Int32) [(.int 0), (.int 1), (.int 0), (.int 0), (.int 1), (.int 1), (.int 0), (.int 1), (.int 2), (.int 0), (.int 0), (.int 0), (.int 1), (.int 1), (.int 1), (.int 0), (.int 1), (.int 2), (.int 0), (.int 1), (.int 1), (.int 1), (.int 1), (.int 1), (.int 0), (.int 0), (.int 0)] (.int (0 : Int32)) := Vw39
  obtain ⟨T40, h40, X40, e40, W40, Vw40, st40⟩ := own_stI X39 hx hZ e39 V39_b15 24 rfl ⟨by decide, by decide⟩ (Nat.le_of_ble_eq_true rfl) (g := (mkF m 193 #[.val (.int p1), .val (.int p2), .val (.int p3), .val (.int t), .val (.int q), .val (.int r), .val (.ref b1), .val (.ref b8), .unset, .unset] [(.int 1), (.int 24), (.ref b15), (.ref b15)])) rfl rfl (hb hby at_193)
  have N40 := Fr.snoc X40 N39 g_b15
  have K40 : Keep h0 h40 [] := K39.wr W40 (Or.inr sz_b15)
  have V40_b15 : Arv Z h40 b15 k15 .int (27 : Int32) [(.int 0), (.int 1), (.int 0), (.int 0), (.int 1), (.int 1), (.int 0), (.int 1), (.int 2), (.int 0), (.int 0), (.int 0), (.int 1), (.int 1), (.int 1), (.int 0), (.int 1), (.int 2), (.int 0), (.int 1), (.int 1), (.int 1), (.int 1), (.int 1), (.int 1), (.int 0), (.int 0)] (.int (0 : Int32)) := Vw40
  obtain ⟨T41, h41, X41, e41, W41, Vw41, st41⟩ := own_stI X40 hx hZ e40 V40_b15 25 rfl ⟨by decide, by decide⟩ (Nat.le_of_ble_eq_true rfl) (g := (mkF m 198 #[.val (.int p1), .val (.int p2), .val (.int p3), .val (.int t), .val (.int q), .val (.int r), .val (.ref b1), .val (.ref b8), .unset, .unset] [(.int 1), (.int 25), (.ref b15), (.ref b15)])) rfl rfl (hb hby at_198)
  have N41 := Fr.snoc X41 N40 g_b15
  have K41 : Keep h0 h41 [] := K40.wr W41 (Or.inr sz_b15)
  have V41_b15 : Arv Z h41 b15 k15 .int (27 : Int32) [(.int 0), (.int 1), (.int 0), (.int 0), (.int 1), (.int 1), (.int 0), (.int 1), (.int 2), (.int 0), (.int 0), (.int 0), (.int 1), (.int 1), (.int 1), (.int 0), (.int 1), (.int 2), (.int 0), (.int 1), (.int 1), (.int 1), (.int 1), (.int 1), (.int 1), (.int 1), (.int 0)] (.int (0 : Int32)) := Vw41
  obtain ⟨T42, h42, X42, e42, W42, Vw42, st42⟩ := own_stI X41 hx hZ e41 V41_b15 26 rfl ⟨by decide, by decide⟩ (Nat.le_of_ble_eq_true rfl) (g := (mkF m 203 #[.val (.int p1), .val (.int p2), .val (.int p3), .val (.int t), .val (.int q), .val (.int r), .val (.ref b1), .val (.ref b8), .unset, .unset] [(.int 1), (.int 26), (.ref b15), (.ref b15)])) rfl rfl (hb hby at_203)
  have N42 := Fr.snoc X42 N41 g_b15
  have K42 : Keep h0 h42 [] := K41.wr W42 (Or.inr sz_b15)
  have V42_b15 : Arv Z h42 b15 k15 .int (27 : Int32) [(.int 0), (.int 1), (.int 0), (.int 0), (.int 1), (.int 1), (.int 0), (.int 1), (.int 2), (.int 0), (.int 0), (.int 0), (.int 1), (.int 1), (.int 1), (.int 0), (.int 1), (.int 2), (.int 0), (.int 1), (.int 1), (.int 1), (.int 1), (.int 1), (.int 1), (.int 1), (.int 1)] (.int (0 : Int32)) := Vw42
  refine ⟨T42, _, _, b1, b8, b15, k1, k8, k15, X42, e42, K42, N42, sz_b1, sz_b8, sz_b15, ((((((((((((((((((((((((((((((((V7_b1.ext E8).other W10 (Nat.ne_of_lt (Nat.lt_of_lt_of_le (V7_b1).lt s_b8))).other W12 (Nat.ne_of_lt (Nat.lt_of_lt_of_le (V7_b1).lt s_b8))).other W14 (Nat.ne_of_lt (Nat.lt_of_lt_of_le (V7_b1).lt s_b8))).ext E15).other W16 (Nat.ne_of_lt (Nat.lt_of_lt_of_le (((((V7_b1.ext E8).other W10 (Nat.ne_of_lt (Nat.lt_of_lt_of_le (V7_b1).lt s_b8))).other W12 (Nat.ne_of_lt (Nat.lt_of_lt_of_le (V7_b1).lt s_b8))).other W14 (Nat.ne_of_lt (Nat.lt_of_lt_of_le (V7_b1).lt s_b8)))).lt s_b15))).other W17 (Nat.ne_of_lt (Nat.lt_of_lt_of_le (((((V7_b1.ext E8).other W10 (Nat.ne_of_lt (Nat.lt_of_lt_of_le (V7_b1).lt s_b8))).other W12 (Nat.ne_of_lt (Nat.lt_of_lt_of_le (V7_b1).lt s_b8))).other W14 (Nat.ne_of_lt (Nat.lt_of_lt_of_le (V7_b1).lt s_b8)))).lt s_b15))).other W18 (Nat.ne_of_lt (Nat.lt_of_lt_of_le (((((V7_b1.ext E8).other W10 (Nat.ne_of_lt (Nat.lt_of_lt_of_le (V7_b1).lt s_b8))).other W12 (Nat.ne_of_lt (Nat.lt_of_lt_of_le (V7_b1).lt s_b8))).other W14 (Nat.ne_of_lt (Nat.lt_of_lt_of_le (V7_b1).lt s_b8)))).lt s_b15))).other W19 (Nat.ne_of_lt (Nat.lt_of_lt_of_le (((((V7_b1.ext E8).other W10 (Nat.ne_of_lt (Nat.lt_of_lt_of_le (V7_b1).lt s_b8))).other W12 (Nat.ne_of_lt (Nat.lt_of_lt_of_le (V7_b1).lt s_b8))).other W14 (Nat.ne_of_lt (Nat.lt_of_lt_of_le (V7_b1).lt s_b8)))).lt s_b15))).other W20 (Nat.ne_of_lt (Nat.lt_of_lt_of_le (((((V7_b1.ext E8).other W10 (Nat.ne_of_lt (Nat.lt_of_lt_of_le (V7_b1).lt s_b8))).other W12 (Nat.ne_of_lt (Nat.lt_of_lt_of_le (V7_b1).lt s_b8))).other W14 (Nat.ne_of_lt (Nat.lt_of_lt_of_le (V7_b1).lt s_b8)))).lt s_b15))).other W21 (Nat.ne_of_lt (Nat.lt_of_lt_of_le (((((V7_b1.ext E8).other W10 (Nat.ne_of_lt (Nat.lt_of_lt_of_le (V7_b1).lt s_b8))).other W12 (Nat.ne_of_lt (Nat.lt_of_lt_of_le (V7_b1).lt s_b8))).other W14 (Nat.ne_of_lt (Nat.lt_of_lt_of_le (V7_b1).lt s_b8)))).lt s_b15))).other W22 (Nat.ne_of_lt (Nat.lt_of_lt_of_le (((((V7_b1.ext E8).other W10 (Nat.ne_of_lt (Nat.lt_of_lt_of_le (V7_b1).lt s_b8))).other W12 (Nat.ne_of_lt (Nat.lt_of_lt_of_le (V7_b1).lt s_b8))).other W14 (Nat.ne_of_lt (Nat.lt_of_lt_of_le (V7_b1).lt s_b8)))).lt s_b15))).other W23 (Nat.ne_of_lt (Nat.lt_of_lt_of_le (((((V7_b1.ext E8).other W10 (Nat.ne_of_lt (Nat.lt_of_lt_of_le (V7_b1).lt s_b8))).other W12 (Nat.ne_of_lt (Nat.lt_of_lt_of_le (V7_b1).lt s_b8))).other W14 (Nat.ne_of_lt (Nat.lt_of_lt_of_le (V7_b1).lt s_b8)))).lt s_b15))).other W24 (Nat.ne_of_lt (Nat.lt_of_lt_of_le (((((V7_b1.ext E8).other W10 (Nat.ne_of_lt (Nat.lt_of_lt_of_le (V7_b1).lt s_b8))).other W12 (Nat.ne_of_lt (Nat.lt_of_lt_of_le (V7_b1).lt s_b8))).other W14 (Nat.ne_of_lt (Nat.lt_of_lt_of_le (V7_b1).lt s_b8)))).lt s_b15))).other W25 (Nat.ne_of_lt (Nat.lt_of_lt_of_le (((((V7_b1.ext E8).other W10 (Nat.ne_of_lt (Nat.lt_of_lt_of_le (V7_b1).lt s_b8))).other W12 (Nat.ne_of_lt (Nat.lt_of_lt_of_le (V7_b1).lt s_b8))).other W14 (Nat.ne_of_lt (Nat.lt_of_lt_of_le (V7_b1).lt s_b8)))).lt s_b15))).other W26 (Nat.ne_of_lt (Nat.lt_of_lt_of_le (((((V7_b1.ext E8).other W10 (Nat.ne_of_lt (Nat.lt_of_lt_of_le (V7_b1).lt s_b8))).other W12 (Nat.ne_of_lt (Nat.lt_of_lt_of_le (V7_b1).lt s_b8))).other W14 (Nat.ne_of_lt (Nat.lt_of_lt_of_le (V7_b1).lt s_b8)))).lt s_b15))).other W27 (Nat.ne_of_lt (Nat.lt_of_lt_of_le (((((V7_b1.ext E8).other W10 (Nat.ne_of_lt (Nat.lt_of_lt_of_le (V7_b1).lt s_b8))).other W12 (Nat.ne_of_lt (Nat.lt_of_lt_of_le (V7_b1).lt s_b8))).other W14 (Nat.ne_of_lt (Nat.lt_of_lt_of_le (V7_b1).lt s_b8)))).lt s_b15))).other W28 (Nat.ne_of_lt (Nat.lt_of_lt_of_le (((((V7_b1.ext E8).other W10 (Nat.ne_of_lt (Nat.lt_of_lt_of_le (V7_b1).lt s_b8))).other W12 (Nat.ne_of_lt (Nat.lt_of_lt_of_le (V7_b1).lt s_b8))).other W14 (Nat.ne_of_lt (Nat.lt_of_lt_of_le (V7_b1).lt s_b8)))).lt s_b15))).other W29 (Nat.ne_of_lt (Nat.lt_of_lt_of_le (((((V7_b1.ext E8).other W10 (Nat.ne_of_lt (Nat.lt_of_lt_of_le (V7_b1).lt s_b8))).other W12 (Nat.ne_of_lt (Nat.lt_of_lt_of_le (V7_b1).lt s_b8))).other W14 (Nat.ne_of_lt (Nat.lt_of_lt_of_le (V7_b1).lt s_b8)))).lt s_b15))).other W30 (Nat.ne_of_lt (Nat.lt_of_lt_of_le (((((V7_b1.ext E8).other W10 (Nat.ne_of_lt (Nat.lt_of_lt_of_le (V7_b1).lt s_b8))).other W12 (Nat.ne_of_lt (Nat.lt_of_lt_of_le (V7_b1).lt s_b8))).other W14 (Nat.ne_of_lt (Nat.lt_of_lt_of_le (V7_b1).lt s_b8)))).lt s_b15))).other W31 (Nat.ne_of_lt (Nat.lt_of_lt_of_le (((((V7_b1.ext E8).other W10 (Nat.ne_of_lt (Nat.lt_of_lt_of_le (V7_b1).lt s_b8))).other W12 (Nat.ne_of_lt (Nat.lt_of_lt_of_le (V7_b1).lt s_b8))).other W14 (Nat.ne_of_lt (Nat.lt_of_lt_of_le (V7_b1).lt s_b8)))).lt s_b15))).other W32 (Nat.ne_of_lt (Nat.lt_of_lt_of_le (((((V7_b1.ext E8).other W10 (Nat.ne_of_lt (Nat.lt_of_lt_of_le (V7_b1).lt s_b8))).other W12 (Nat.ne_of_lt (Nat.lt_of_lt_of_le (V7_b1).lt s_b8))).other W14 (Nat.ne_of_lt (Nat.lt_of_lt_of_le (V7_b1).lt s_b8)))).lt s_b15))).other W33 (Nat.ne_of_lt (Nat.lt_of_lt_of_le (((((V7_b1.ext E8).other W10 (Nat.ne_of_lt (Nat.lt_of_lt_of_le (V7_b1).lt s_b8))).other W12 (Nat.ne_of_lt (Nat.lt_of_lt_of_le (V7_b1).lt s_b8))).other W14 (Nat.ne_of_lt (Nat.lt_of_lt_of_le (V7_b1).lt s_b8)))).lt s_b15))).other W34 (Nat.ne_of_lt (Nat.lt_of_lt_of_le (((((V7_b1.ext E8).other W10 (Nat.ne_of_lt (Nat.lt_of_lt_of_le (V7_b1).lt s_b8))).other W12 (Nat.ne_of_lt (Nat.lt_of_lt_of_le (V7_b1).lt s_b8))).other W14 (Nat.ne_of_lt (Nat.lt_of_lt_of_le (V7_b1).lt s_b8)))).lt s_b15))).other W35 (Nat.ne_of_lt (Nat.lt_of_lt_of_le (((((V7_b1.ext E8).other W10 (Nat.ne_of_lt (Nat.lt_of_lt_of_le (V7_b1).lt s_b8))).other W12 (Nat.ne_of_lt (Nat.lt_of_lt_of_le (V7_b1).lt s_b8))).other W14 (Nat.ne_of_lt (Nat.lt_of_lt_of_le (V7_b1).lt s_b8)))).lt s_b15))).other W36 (Nat.ne_of_lt (Nat.lt_of_lt_of_le (((((V7_b1.ext E8).other W10 (Nat.ne_of_lt (Nat.lt_of_lt_of_le (V7_b1).lt s_b8))).other W12 (Nat.ne_of_lt (Nat.lt_of_lt_of_le (V7_b1).lt s_b8))).other W14 (Nat.ne_of_lt (Nat.lt_of_lt_of_le (V7_b1).lt s_b8)))).lt s_b15))).other W37 (Nat.ne_of_lt (Nat.lt_of_lt_of_le (((((V7_b1.ext E8).other W10 (Nat.ne_of_lt (Nat.lt_of_lt_of_le (V7_b1).lt s_b8))).other W12 (Nat.ne_of_lt (Nat.lt_of_lt_of_le (V7_b1).lt s_b8))).other W14 (Nat.ne_of_lt (Nat.lt_of_lt_of_le (V7_b1).lt s_b8)))).lt s_b15))).other W38 (Nat.ne_of_lt (Nat.lt_of_lt_of_le (((((V7_b1.ext E8).other W10 (Nat.ne_of_lt (Nat.lt_of_lt_of_le (V7_b1).lt s_b8))).other W12 (Nat.ne_of_lt (Nat.lt_of_lt_of_le (V7_b1).lt s_b8))).other W14 (Nat.ne_of_lt (Nat.lt_of_lt_of_le (V7_b1).lt s_b8)))).lt s_b15))).other W39 (Nat.ne_of_lt (Nat.lt_of_lt_of_le (((((V7_b1.ext E8).other W10 (Nat.ne_of_lt (Nat.lt_of_lt_of_le (V7_b1).lt s_b8))).other W12 (Nat.ne_of_lt (Nat.lt_of_lt_of_le (V7_b1).lt s_b8))).other W14 (Nat.ne_of_lt (Nat.lt_of_lt_of_le (V7_b1).lt s_b8)))).lt s_b15))).other W40 (Nat.ne_of_lt (Nat.lt_of_lt_of_le (((((V7_b1.ext E8).other W10 (Nat.ne_of_lt (Nat.lt_of_lt_of_le (V7_b1).lt s_b8))).other W12 (Nat.ne_of_lt (Nat.lt_of_lt_of_le (V7_b1).lt s_b8))).other W14 (Nat.ne_of_lt (Nat.lt_of_lt_of_le (V7_b1).lt s_b8)))).lt s_b15))).other W41 (Nat.ne_of_lt (Nat.lt_of_lt_of_le (((((V7_b1.ext E8).other W10 (Nat.ne_of_lt (Nat.lt_of_lt_of_le (V7_b1).lt s_b8))).other W12 (Nat.ne_of_lt (Nat.lt_of_lt_of_le (V7_b1).lt s_b8))).other W14 (Nat.ne_of_lt (Nat.lt_of_lt_of_le (V7_b1).lt s_b8)))).lt s_b15))).other W42 (Nat.ne_of_lt (Nat.lt_of_lt_of_le (((((V7_b1.ext E8).other W10 (Nat.ne_of_lt (Nat.lt_of_lt_of_le (V7_b1).lt s_b8))).other W12 (Nat.ne_of_lt (Nat.lt_of_lt_of_le (V7_b1).lt s_b8))).other W14 (Nat.ne_of_lt (Nat.lt_of_lt_of_le (V7_b1).lt s_b8)))).lt s_b15))), O1, ((((((((((((((((((((((((((((V14_b8.ext E15).other W16 (Nat.ne_of_lt (Nat.lt_of_lt_of_le (V14_b8).lt s_b15))).other W17 (Nat.ne_of_lt (Nat.lt_of_lt_of_le (V14_b8).lt s_b15))).other W18 (Nat.ne_of_lt (Nat.lt_of_lt_of_le (V14_b8).lt s_b15))).other W19 (Nat.ne_of_lt (Nat.lt_of_lt_of_le (V14_b8).lt s_b15))).other W20 (Nat.ne_of_lt (Nat.lt_of_lt_of_le (V14_b8).lt s_b15))).other W21 (Nat.ne_of_lt (Nat.lt_of_lt_of_le (V14_b8).lt s_b15))).other W22 (Nat.ne_of_lt (Nat.lt_of_lt_of_le (V14_b8).lt s_b15))).other W23 (Nat.ne_of_lt (Nat.lt_of_lt_of_le (V14_b8).lt s_b15))).other W24 (Nat.ne_of_lt (Nat.lt_of_lt_of_le (V14_b8).lt s_b15))).other W25 (Nat.ne_of_lt (Nat.lt_of_lt_of_le (V14_b8).lt s_b15))).other W26 (Nat.ne_of_lt (Nat.lt_of_lt_of_le (V14_b8).lt s_b15))).other W27 (Nat.ne_of_lt (Nat.lt_of_lt_of_le (V14_b8).lt s_b15))).other W28 (Nat.ne_of_lt (Nat.lt_of_lt_of_le (V14_b8).lt s_b15))).other W29 (Nat.ne_of_lt (Nat.lt_of_lt_of_le (V14_b8).lt s_b15))).other W30 (Nat.ne_of_lt (Nat.lt_of_lt_of_le (V14_b8).lt s_b15))).other W31 (Nat.ne_of_lt (Nat.lt_of_lt_of_le (V14_b8).lt s_b15))).other W32 (Nat.ne_of_lt (Nat.lt_of_lt_of_le (V14_b8).lt s_b15))).other W33 (Nat.ne_of_lt (Nat.lt_of_lt_of_le (V14_b8).lt s_b15))).other W34 (Nat.ne_of_lt (Nat.lt_of_lt_of_le (V14_b8).lt s_b15))).other W35 (Nat.ne_of_lt (Nat.lt_of_lt_of_le (V14_b8).lt s_b15))).other W36 (Nat.ne_of_lt (Nat.lt_of_lt_of_le (V14_b8).lt s_b15))).other W37 (Nat.ne_of_lt (Nat.lt_of_lt_of_le (V14_b8).lt s_b15))).other W38 (Nat.ne_of_lt (Nat.lt_of_lt_of_le (V14_b8).lt s_b15))).other W39 (Nat.ne_of_lt (Nat.lt_of_lt_of_le (V14_b8).lt s_b15))).other W40 (Nat.ne_of_lt (Nat.lt_of_lt_of_le (V14_b8).lt s_b15))).other W41 (Nat.ne_of_lt (Nat.lt_of_lt_of_le (V14_b8).lt s_b15))).other W42 (Nat.ne_of_lt (Nat.lt_of_lt_of_le (V14_b8).lt s_b15))), O8, V42_b15, fun target kt => ?_⟩
  show Steps p.tables e below (T0.setTop (mkF m 0 #[.val (.int p1), .val (.int p2), .val (.int p3), .unset, .unset, .unset, .unset, .unset, .unset, .unset] [])) _
  refine XS.iloadN X0.here hx rfl (hb hby at_0) rfl ?_
  show Steps p.tables e below (T0.setTop (mkF m 1 #[.val (.int p1), .val (.int p2), .val (.int p3), .unset, .unset, .unset, .unset, .unset, .unset, .unset] [(.int p1)])) _
  refine X0.ldcInt hx hown (mvT hZ (hw _ (List.mem_of_getElem? (i := 0) rfl))) (g := (mkF m 1 #[.val (.int p1), .val (.int p2), .val (.int p3), .unset, .unset, .unset, .unset, .unset, .unset, .unset] [(.int p1)])) rfl (hb hby at_1) _ ?_
  show Steps p.tables e below (T0.setTop (mkF m 3 #[.val (.int p1), .val (.int p2), .val (.int p3), .unset, .unset, .unset, .unset, .unset, .unset, .unset] [(.int 2147483647), (.int p1)])) _
  refine XS.iand X0.here hx rfl (hb hby at_3) rfl ?_
  show Steps p.tables e below (T0.setTop (mkF m 4 #[.val (.int p1), .val (.int p2), .val (.int p3), .unset, .unset, .unset, .unset, .unset, .unset, .unset] [(.int (p1 &&& (2147483647 : Int32)))])) _
  refine XS.iconst X0.here hx rfl (hb hby at_4) ?_
  show Steps p.tables e below (T0.setTop (mkF m 5 #[.val (.int p1), .val (.int p2), .val (.int p3), .unset, .unset, .unset, .unset, .unset, .unset, .unset] [(.int 3), (.int (p1 &&& (2147483647 : Int32)))])) _
  refine iremM X0 hx rfl (hb hby at_5) rfl (by decide) ?_
  show Steps p.tables e below (T0.setTop (mkF m 6 #[.val (.int p1), .val (.int p2), .val (.int p3), .unset, .unset, .unset, .unset, .unset, .unset, .unset] [(.int ((p1 &&& (2147483647 : Int32)) % (3 : Int32)))])) _
  rw [ht]
  show Steps p.tables e below (T0.setTop (mkF m 6 #[.val (.int p1), .val (.int p2), .val (.int p3), .unset, .unset, .unset, .unset, .unset, .unset, .unset] [(.int t)])) _
  refine XS.istoreN X0.here hx rfl (hb hby at_6) rfl (l' := #[.val (.int p1), .val (.int p2), .val (.int p3), .val (.int t), .unset, .unset, .unset, .unset, .unset, .unset]) rfl ?_
  show Steps p.tables e below (T0.setTop (mkF m 7 #[.val (.int p1), .val (.int p2), .val (.int p3), .val (.int t), .unset, .unset, .unset, .unset, .unset, .unset] [])) _
  refine XS.iloadN X0.here hx rfl (hb hby at_7) rfl ?_
  show Steps p.tables e below (T0.setTop (mkF m 8 #[.val (.int p1), .val (.int p2), .val (.int p3), .val (.int t), .unset, .unset, .unset, .unset, .unset, .unset] [(.int p2)])) _
  refine X0.ldcInt hx hown (mvT hZ (hw _ (List.mem_of_getElem? (i := 0) rfl))) (g := (mkF m 8 #[.val (.int p1), .val (.int p2), .val (.int p3), .val (.int t), .unset, .unset, .unset, .unset, .unset, .unset] [(.int p2)])) rfl (hb hby at_8) _ ?_
  show Steps p.tables e below (T0.setTop (mkF m 10 #[.val (.int p1), .val (.int p2), .val (.int p3), .val (.int t), .unset, .unset, .unset, .unset, .unset, .unset] [(.int 2147483647), (.int p2)])) _
  refine XS.iand X0.here hx rfl (hb hby at_10) rfl ?_
  show Steps p.tables e below (T0.setTop (mkF m 11 #[.val (.int p1), .val (.int p2), .val (.int p3), .val (.int t), .unset, .unset, .unset, .unset, .unset, .unset] [(.int (p2 &&& (2147483647 : Int32)))])) _
  refine XS.iconst X0.here hx rfl (hb hby at_11) ?_
  show Steps p.tables e below (T0.setTop (mkF m 12 #[.val (.int p1), .val (.int p2), .val (.int p3), .val (.int t), .unset, .unset, .unset, .unset, .unset, .unset] [(.int 3), (.int (p2 &&& (2147483647 : Int32)))])) _
  refine iremM X0 hx rfl (hb hby at_12) rfl (by decide) ?_
  show Steps p.tables e below (T0.setTop (mkF m 13 #[.val (.int p1), .val (.int p2), .val (.int p3), .val (.int t), .unset, .unset, .unset, .unset, .unset, .unset] [(.int ((p2 &&& (2147483647 : Int32)) % (3 : Int32)))])) _
  rw [hq]
  show Steps p.tables e below (T0.setTop (mkF m 13 #[.val (.int p1), .val (.int p2), .val (.int p3), .val (.int t), .unset, .unset, .unset, .unset, .unset, .unset] [(.int q)])) _
  refine XS.istore X0.here hx rfl (hb hby at_13) rfl (l' := #[.val (.int p1), .val (.int p2), .val (.int p3), .val (.int t), .val (.int q), .unset, .unset, .unset, .unset, .unset]) rfl ?_
  show Steps p.tables e below (T0.setTop (mkF m 15 #[.val (.int p1), .val (.int p2), .val (.int p3), .val (.int t), .val (.int q), .unset, .unset, .unset, .unset, .unset] [])) _
  refine XS.iloadN X0.here hx rfl (hb hby at_15) rfl ?_
  show Steps p.tables e below (T0.setTop (mkF m 16 #[.val (.int p1), .val (.int p2), .val (.int p3), .val (.int t), .val (.int q), .unset, .unset, .unset, .unset, .unset] [(.int p3)])) _
  refine X0.ldcInt hx hown (mvT hZ (hw _ (List.mem_of_getElem? (i := 0) rfl))) (g := (mkF m 16 #[.val (.int p1), .val (.int p2), .val (.int p3), .val (.int t), .val (.int q), .unset, .unset, .unset, .unset, .unset] [(.int p3)])) rfl (hb hby at_16) _ ?_
  show Steps p.tables e below (T0.setTop (mkF m 18 #[.val (.int p1), .val (.int p2), .val (.int p3), .val (.int t), .val (.int q), .unset, .unset, .unset, .unset, .unset] [(.int 2147483647), (.int p3)])) _
  refine XS.iand X0.here hx rfl (hb hby at_18) rfl ?_
  show Steps p.tables e below (T0.setTop (mkF m 19 #[.val (.int p1), .val (.int p2), .val (.int p3), .val (.int t), .val (.int q), .unset, .unset, .unset, .unset, .unset] [(.int (p3 &&& (2147483647 : Int32)))])) _
  refine XS.iconst X0.here hx rfl (hb hby at_19) ?_
  show Steps p.tables e below (T0.setTop (mkF m 20 #[.val (.int p1), .val (.int p2), .val (.int p3), .val (.int t), .val (.int q), .unset, .unset, .unset, .unset, .unset] [(.int 3), (.int (p3 &&& (2147483647 : Int32)))])) _
  refine iremM X0 hx rfl (hb hby at_20) rfl (by decide) ?_
  show Steps p.tables e below (T0.setTop (mkF m 21 #[.val (.int p1), .val (.int p2), .val (.int p3), .val (.int t), .val (.int q), .unset, .unset, .unset, .unset, .unset] [(.int ((p3 &&& (2147483647 : Int32)) % (3 : Int32)))])) _
  rw [hr0]
  show Steps p.tables e below (T0.setTop (mkF m 21 #[.val (.int p1), .val (.int p2), .val (.int p3), .val (.int t), .val (.int q), .unset, .unset, .unset, .unset, .unset] [(.int r)])) _
  refine XS.istore X0.here hx rfl (hb hby at_21) rfl (l' := #[.val (.int p1), .val (.int p2), .val (.int p3), .val (.int t), .val (.int q), .val (.int r), .unset, .unset, .unset, .unset]) rfl ?_
  show Steps p.tables e below (T0.setTop (mkF m 23 #[.val (.int p1), .val (.int p2), .val (.int p3), .val (.int t), .val (.int q), .val (.int r), .unset, .unset, .unset, .unset] [])) _
  refine XS.iconst X0.here hx rfl (hb hby at_23) ?_
  show Steps p.tables e below (T0.setTop (mkF m 24 #[.val (.int p1), .val (.int p2), .val (.int p3), .val (.int t), .val (.int q), .val (.int r), .unset, .unset, .unset, .unset] [(.int 3)])) _
  refine st1 _ ?_
  show Steps p.tables e below (T1.setTop (mkF m 27 #[.val (.int p1), .val (.int p2), .val (.int p3), .val (.int t), .val (.int q), .val (.int r), .unset, .unset, .unset, .unset] [(.ref b1)])) _
  refine XS.dup X1.here hx rfl (hb hby at_27) rfl rfl ?_
  show Steps p.tables e below (T1.setTop (mkF m 28 #[.val (.int p1), .val (.int p2), .val (.int p3), .val (.int t), .val (.int q), .val (.int r), .unset, .unset, .unset, .unset] [(.ref b1), (.ref b1)])) _
  refine XS.iconst X1.here hx rfl (hb hby at_28) ?_
  show Steps p.tables e below (T1.setTop (mkF m 29 #[.val (.int p1), .val (.int p2), .val (.int p3), .val (.int t), .val (.int q), .val (.int r), .unset, .unset, .unset, .unset] [(.int 0), (.ref b1), (.ref b1)])) _
  refine st2 _ ?_
  show Steps p.tables e below (T2.setTop (mkF m 32 #[.val (.int p1), .val (.int p2), .val (.int p3), .val (.int t), .val (.int q), .val (.int r), .unset, .unset, .unset, .unset] [(.ref w_CHILD_OVERRIDES), (.int 0), (.ref b1), (.ref b1)])) _
  refine st3 _ ?_
  show Steps p.tables e below (T3.setTop (mkF m 33 #[.val (.int p1), .val (.int p2), .val (.int p3), .val (.int t), .val (.int q), .val (.int r), .unset, .unset, .unset, .unset] [(.ref b1)])) _
  refine XS.dup X3.here hx rfl (hb hby at_33) rfl rfl ?_
  show Steps p.tables e below (T3.setTop (mkF m 34 #[.val (.int p1), .val (.int p2), .val (.int p3), .val (.int t), .val (.int q), .val (.int r), .unset, .unset, .unset, .unset] [(.ref b1), (.ref b1)])) _
  refine XS.iconst X3.here hx rfl (hb hby at_34) ?_
  show Steps p.tables e below (T3.setTop (mkF m 35 #[.val (.int p1), .val (.int p2), .val (.int p3), .val (.int t), .val (.int q), .val (.int r), .unset, .unset, .unset, .unset] [(.int 1), (.ref b1), (.ref b1)])) _
  refine st4 _ ?_
  show Steps p.tables e below (T4.setTop (mkF m 38 #[.val (.int p1), .val (.int p2), .val (.int p3), .val (.int t), .val (.int q), .val (.int r), .unset, .unset, .unset, .unset] [(.ref w_PARENT_OVERRIDES), (.int 1), (.ref b1), (.ref b1)])) _
  refine st5 _ ?_
  show Steps p.tables e below (T5.setTop (mkF m 39 #[.val (.int p1), .val (.int p2), .val (.int p3), .val (.int t), .val (.int q), .val (.int r), .unset, .unset, .unset, .unset] [(.ref b1)])) _
  refine XS.dup X5.here hx rfl (hb hby at_39) rfl rfl ?_
  show Steps p.tables e below (T5.setTop (mkF m 40 #[.val (.int p1), .val (.int p2), .val (.int p3), .val (.int t), .val (.int q), .val (.int r), .unset, .unset, .unset, .unset] [(.ref b1), (.ref b1)])) _
  refine XS.iconst X5.here hx rfl (hb hby at_40) ?_
  show Steps p.tables e below (T5.setTop (mkF m 41 #[.val (.int p1), .val (.int p2), .val (.int p3), .val (.int t), .val (.int q), .val (.int r), .unset, .unset, .unset, .unset] [(.int 2), (.ref b1), (.ref b1)])) _
  refine st6 _ ?_
  show Steps p.tables e below (T6.setTop (mkF m 44 #[.val (.int p1), .val (.int p2), .val (.int p3), .val (.int t), .val (.int q), .val (.int r), .unset, .unset, .unset, .unset] [(.ref w_AND_BOTH_PERMIT), (.int 2), (.ref b1), (.ref b1)])) _
  refine st7 _ ?_
  show Steps p.tables e below (T7.setTop (mkF m 45 #[.val (.int p1), .val (.int p2), .val (.int p3), .val (.int t), .val (.int q), .val (.int r), .unset, .unset, .unset, .unset] [(.ref b1)])) _
  refine XS.astore X7.here hx rfl (hb hby at_45) rfl rfl (l' := #[.val (.int p1), .val (.int p2), .val (.int p3), .val (.int t), .val (.int q), .val (.int r), .val (.ref b1), .unset, .unset, .unset]) rfl ?_
  show Steps p.tables e below (T7.setTop (mkF m 47 #[.val (.int p1), .val (.int p2), .val (.int p3), .val (.int t), .val (.int q), .val (.int r), .val (.ref b1), .unset, .unset, .unset] [])) _
  refine XS.iconst X7.here hx rfl (hb hby at_47) ?_
  show Steps p.tables e below (T7.setTop (mkF m 48 #[.val (.int p1), .val (.int p2), .val (.int p3), .val (.int t), .val (.int q), .val (.int r), .val (.ref b1), .unset, .unset, .unset] [(.int 3)])) _
  refine st8 _ ?_
  show Steps p.tables e below (T8.setTop (mkF m 51 #[.val (.int p1), .val (.int p2), .val (.int p3), .val (.int t), .val (.int q), .val (.int r), .val (.ref b1), .unset, .unset, .unset] [(.ref b8)])) _
  refine XS.dup X8.here hx rfl (hb hby at_51) rfl rfl ?_
  show Steps p.tables e below (T8.setTop (mkF m 52 #[.val (.int p1), .val (.int p2), .val (.int p3), .val (.int t), .val (.int q), .val (.int r), .val (.ref b1), .unset, .unset, .unset] [(.ref b8), (.ref b8)])) _
  refine XS.iconst X8.here hx rfl (hb hby at_52) ?_
  show Steps p.tables e below (T8.setTop (mkF m 53 #[.val (.int p1), .val (.int p2), .val (.int p3), .val (.int t), .val (.int q), .val (.int r), .val (.ref b1), .unset, .unset, .unset] [(.int 0), (.ref b8), (.ref b8)])) _
  refine st9 _ ?_
  show Steps p.tables e below (T9.setTop (mkF m 56 #[.val (.int p1), .val (.int p2), .val (.int p3), .val (.int t), .val (.int q), .val (.int r), .val (.ref b1), .unset, .unset, .unset] [(.ref w_PERMIT), (.int 0), (.ref b8), (.ref b8)])) _
  refine st10 _ ?_
  show Steps p.tables e below (T10.setTop (mkF m 57 #[.val (.int p1), .val (.int p2), .val (.int p3), .val (.int t), .val (.int q), .val (.int r), .val (.ref b1), .unset, .unset, .unset] [(.ref b8)])) _
  refine XS.dup X10.here hx rfl (hb hby at_57) rfl rfl ?_
  show Steps p.tables e below (T10.setTop (mkF m 58 #[.val (.int p1), .val (.int p2), .val (.int p3), .val (.int t), .val (.int q), .val (.int r), .val (.ref b1), .unset, .unset, .unset] [(.ref b8), (.ref b8)])) _
  refine XS.iconst X10.here hx rfl (hb hby at_58) ?_
  show Steps p.tables e below (T10.setTop (mkF m 59 #[.val (.int p1), .val (.int p2), .val (.int p3), .val (.int t), .val (.int q), .val (.int r), .val (.ref b1), .unset, .unset, .unset] [(.int 1), (.ref b8), (.ref b8)])) _
  refine st11 _ ?_
  show Steps p.tables e below (T11.setTop (mkF m 62 #[.val (.int p1), .val (.int p2), .val (.int p3), .val (.int t), .val (.int q), .val (.int r), .val (.ref b1), .unset, .unset, .unset] [(.ref w_DENY), (.int 1), (.ref b8), (.ref b8)])) _
  refine st12 _ ?_
  show Steps p.tables e below (T12.setTop (mkF m 63 #[.val (.int p1), .val (.int p2), .val (.int p3), .val (.int t), .val (.int q), .val (.int r), .val (.ref b1), .unset, .unset, .unset] [(.ref b8)])) _
  refine XS.dup X12.here hx rfl (hb hby at_63) rfl rfl ?_
  show Steps p.tables e below (T12.setTop (mkF m 64 #[.val (.int p1), .val (.int p2), .val (.int p3), .val (.int t), .val (.int q), .val (.int r), .val (.ref b1), .unset, .unset, .unset] [(.ref b8), (.ref b8)])) _
  refine XS.iconst X12.here hx rfl (hb hby at_64) ?_
  show Steps p.tables e below (T12.setTop (mkF m 65 #[.val (.int p1), .val (.int p2), .val (.int p3), .val (.int t), .val (.int q), .val (.int r), .val (.ref b1), .unset, .unset, .unset] [(.int 2), (.ref b8), (.ref b8)])) _
  refine st13 _ ?_
  show Steps p.tables e below (T13.setTop (mkF m 68 #[.val (.int p1), .val (.int p2), .val (.int p3), .val (.int t), .val (.int q), .val (.int r), .val (.ref b1), .unset, .unset, .unset] [(.ref w_INDETERMINATE), (.int 2), (.ref b8), (.ref b8)])) _
  refine st14 _ ?_
  show Steps p.tables e below (T14.setTop (mkF m 69 #[.val (.int p1), .val (.int p2), .val (.int p3), .val (.int t), .val (.int q), .val (.int r), .val (.ref b1), .unset, .unset, .unset] [(.ref b8)])) _
  refine XS.astore X14.here hx rfl (hb hby at_69) rfl rfl (l' := #[.val (.int p1), .val (.int p2), .val (.int p3), .val (.int t), .val (.int q), .val (.int r), .val (.ref b1), .val (.ref b8), .unset, .unset]) rfl ?_
  show Steps p.tables e below (T14.setTop (mkF m 71 #[.val (.int p1), .val (.int p2), .val (.int p3), .val (.int t), .val (.int q), .val (.int r), .val (.ref b1), .val (.ref b8), .unset, .unset] [])) _
  refine XS.bipush X14.here hx rfl (hb hby at_71) ?_
  show Steps p.tables e below (T14.setTop (mkF m 73 #[.val (.int p1), .val (.int p2), .val (.int p3), .val (.int t), .val (.int q), .val (.int r), .val (.ref b1), .val (.ref b8), .unset, .unset] [(.int 27)])) _
  refine st15 _ ?_
  show Steps p.tables e below (T15.setTop (mkF m 75 #[.val (.int p1), .val (.int p2), .val (.int p3), .val (.int t), .val (.int q), .val (.int r), .val (.ref b1), .val (.ref b8), .unset, .unset] [(.ref b15)])) _
  refine XS.dup X15.here hx rfl (hb hby at_75) rfl rfl ?_
  show Steps p.tables e below (T15.setTop (mkF m 76 #[.val (.int p1), .val (.int p2), .val (.int p3), .val (.int t), .val (.int q), .val (.int r), .val (.ref b1), .val (.ref b8), .unset, .unset] [(.ref b15), (.ref b15)])) _
  refine XS.iconst X15.here hx rfl (hb hby at_76) ?_
  show Steps p.tables e below (T15.setTop (mkF m 77 #[.val (.int p1), .val (.int p2), .val (.int p3), .val (.int t), .val (.int q), .val (.int r), .val (.ref b1), .val (.ref b8), .unset, .unset] [(.int 0), (.ref b15), (.ref b15)])) _
  refine XS.iconst X15.here hx rfl (hb hby at_77) ?_
  show Steps p.tables e below (T15.setTop (mkF m 78 #[.val (.int p1), .val (.int p2), .val (.int p3), .val (.int t), .val (.int q), .val (.int r), .val (.ref b1), .val (.ref b8), .unset, .unset] [(.int 0), (.int 0), (.ref b15), (.ref b15)])) _
  refine st16 _ ?_
  show Steps p.tables e below (T16.setTop (mkF m 79 #[.val (.int p1), .val (.int p2), .val (.int p3), .val (.int t), .val (.int q), .val (.int r), .val (.ref b1), .val (.ref b8), .unset, .unset] [(.ref b15)])) _
  refine XS.dup X16.here hx rfl (hb hby at_79) rfl rfl ?_
  show Steps p.tables e below (T16.setTop (mkF m 80 #[.val (.int p1), .val (.int p2), .val (.int p3), .val (.int t), .val (.int q), .val (.int r), .val (.ref b1), .val (.ref b8), .unset, .unset] [(.ref b15), (.ref b15)])) _
  refine XS.iconst X16.here hx rfl (hb hby at_80) ?_
  show Steps p.tables e below (T16.setTop (mkF m 81 #[.val (.int p1), .val (.int p2), .val (.int p3), .val (.int t), .val (.int q), .val (.int r), .val (.ref b1), .val (.ref b8), .unset, .unset] [(.int 1), (.ref b15), (.ref b15)])) _
  refine XS.iconst X16.here hx rfl (hb hby at_81) ?_
  show Steps p.tables e below (T16.setTop (mkF m 82 #[.val (.int p1), .val (.int p2), .val (.int p3), .val (.int t), .val (.int q), .val (.int r), .val (.ref b1), .val (.ref b8), .unset, .unset] [(.int 1), (.int 1), (.ref b15), (.ref b15)])) _
  refine st17 _ ?_
  show Steps p.tables e below (T17.setTop (mkF m 83 #[.val (.int p1), .val (.int p2), .val (.int p3), .val (.int t), .val (.int q), .val (.int r), .val (.ref b1), .val (.ref b8), .unset, .unset] [(.ref b15)])) _
  refine XS.dup X17.here hx rfl (hb hby at_83) rfl rfl ?_
  show Steps p.tables e below (T17.setTop (mkF m 84 #[.val (.int p1), .val (.int p2), .val (.int p3), .val (.int t), .val (.int q), .val (.int r), .val (.ref b1), .val (.ref b8), .unset, .unset] [(.ref b15), (.ref b15)])) _
  refine XS.iconst X17.here hx rfl (hb hby at_84) ?_
  show Steps p.tables e below (T17.setTop (mkF m 85 #[.val (.int p1), .val (.int p2), .val (.int p3), .val (.int t), .val (.int q), .val (.int r), .val (.ref b1), .val (.ref b8), .unset, .unset] [(.int 2), (.ref b15), (.ref b15)])) _
  refine XS.iconst X17.here hx rfl (hb hby at_85) ?_
  show Steps p.tables e below (T17.setTop (mkF m 86 #[.val (.int p1), .val (.int p2), .val (.int p3), .val (.int t), .val (.int q), .val (.int r), .val (.ref b1), .val (.ref b8), .unset, .unset] [(.int 0), (.int 2), (.ref b15), (.ref b15)])) _
  refine st18 _ ?_
  show Steps p.tables e below (T18.setTop (mkF m 87 #[.val (.int p1), .val (.int p2), .val (.int p3), .val (.int t), .val (.int q), .val (.int r), .val (.ref b1), .val (.ref b8), .unset, .unset] [(.ref b15)])) _
  refine XS.dup X18.here hx rfl (hb hby at_87) rfl rfl ?_
  show Steps p.tables e below (T18.setTop (mkF m 88 #[.val (.int p1), .val (.int p2), .val (.int p3), .val (.int t), .val (.int q), .val (.int r), .val (.ref b1), .val (.ref b8), .unset, .unset] [(.ref b15), (.ref b15)])) _
  refine XS.iconst X18.here hx rfl (hb hby at_88) ?_
  show Steps p.tables e below (T18.setTop (mkF m 89 #[.val (.int p1), .val (.int p2), .val (.int p3), .val (.int t), .val (.int q), .val (.int r), .val (.ref b1), .val (.ref b8), .unset, .unset] [(.int 3), (.ref b15), (.ref b15)])) _
  refine XS.iconst X18.here hx rfl (hb hby at_89) ?_
  show Steps p.tables e below (T18.setTop (mkF m 90 #[.val (.int p1), .val (.int p2), .val (.int p3), .val (.int t), .val (.int q), .val (.int r), .val (.ref b1), .val (.ref b8), .unset, .unset] [(.int 0), (.int 3), (.ref b15), (.ref b15)])) _
  refine st19 _ ?_
  show Steps p.tables e below (T19.setTop (mkF m 91 #[.val (.int p1), .val (.int p2), .val (.int p3), .val (.int t), .val (.int q), .val (.int r), .val (.ref b1), .val (.ref b8), .unset, .unset] [(.ref b15)])) _
  refine XS.dup X19.here hx rfl (hb hby at_91) rfl rfl ?_
  show Steps p.tables e below (T19.setTop (mkF m 92 #[.val (.int p1), .val (.int p2), .val (.int p3), .val (.int t), .val (.int q), .val (.int r), .val (.ref b1), .val (.ref b8), .unset, .unset] [(.ref b15), (.ref b15)])) _
  refine XS.iconst X19.here hx rfl (hb hby at_92) ?_
  show Steps p.tables e below (T19.setTop (mkF m 93 #[.val (.int p1), .val (.int p2), .val (.int p3), .val (.int t), .val (.int q), .val (.int r), .val (.ref b1), .val (.ref b8), .unset, .unset] [(.int 4), (.ref b15), (.ref b15)])) _
  refine XS.iconst X19.here hx rfl (hb hby at_93) ?_
  show Steps p.tables e below (T19.setTop (mkF m 94 #[.val (.int p1), .val (.int p2), .val (.int p3), .val (.int t), .val (.int q), .val (.int r), .val (.ref b1), .val (.ref b8), .unset, .unset] [(.int 1), (.int 4), (.ref b15), (.ref b15)])) _
  refine st20 _ ?_
  show Steps p.tables e below (T20.setTop (mkF m 95 #[.val (.int p1), .val (.int p2), .val (.int p3), .val (.int t), .val (.int q), .val (.int r), .val (.ref b1), .val (.ref b8), .unset, .unset] [(.ref b15)])) _
  refine XS.dup X20.here hx rfl (hb hby at_95) rfl rfl ?_
  show Steps p.tables e below (T20.setTop (mkF m 96 #[.val (.int p1), .val (.int p2), .val (.int p3), .val (.int t), .val (.int q), .val (.int r), .val (.ref b1), .val (.ref b8), .unset, .unset] [(.ref b15), (.ref b15)])) _
  refine XS.iconst X20.here hx rfl (hb hby at_96) ?_
  show Steps p.tables e below (T20.setTop (mkF m 97 #[.val (.int p1), .val (.int p2), .val (.int p3), .val (.int t), .val (.int q), .val (.int r), .val (.ref b1), .val (.ref b8), .unset, .unset] [(.int 5), (.ref b15), (.ref b15)])) _
  refine XS.iconst X20.here hx rfl (hb hby at_97) ?_
  show Steps p.tables e below (T20.setTop (mkF m 98 #[.val (.int p1), .val (.int p2), .val (.int p3), .val (.int t), .val (.int q), .val (.int r), .val (.ref b1), .val (.ref b8), .unset, .unset] [(.int 1), (.int 5), (.ref b15), (.ref b15)])) _
  refine st21 _ ?_
  show Steps p.tables e below (T21.setTop (mkF m 99 #[.val (.int p1), .val (.int p2), .val (.int p3), .val (.int t), .val (.int q), .val (.int r), .val (.ref b1), .val (.ref b8), .unset, .unset] [(.ref b15)])) _
  refine XS.dup X21.here hx rfl (hb hby at_99) rfl rfl ?_
  show Steps p.tables e below (T21.setTop (mkF m 100 #[.val (.int p1), .val (.int p2), .val (.int p3), .val (.int t), .val (.int q), .val (.int r), .val (.ref b1), .val (.ref b8), .unset, .unset] [(.ref b15), (.ref b15)])) _
  refine XS.bipush X21.here hx rfl (hb hby at_100) ?_
  show Steps p.tables e below (T21.setTop (mkF m 102 #[.val (.int p1), .val (.int p2), .val (.int p3), .val (.int t), .val (.int q), .val (.int r), .val (.ref b1), .val (.ref b8), .unset, .unset] [(.int 6), (.ref b15), (.ref b15)])) _
  refine XS.iconst X21.here hx rfl (hb hby at_102) ?_
  show Steps p.tables e below (T21.setTop (mkF m 103 #[.val (.int p1), .val (.int p2), .val (.int p3), .val (.int t), .val (.int q), .val (.int r), .val (.ref b1), .val (.ref b8), .unset, .unset] [(.int 0), (.int 6), (.ref b15), (.ref b15)])) _
  refine st22 _ ?_
  show Steps p.tables e below (T22.setTop (mkF m 104 #[.val (.int p1), .val (.int p2), .val (.int p3), .val (.int t), .val (.int q), .val (.int r), .val (.ref b1), .val (.ref b8), .unset, .unset] [(.ref b15)])) _
  refine XS.dup X22.here hx rfl (hb hby at_104) rfl rfl ?_
  show Steps p.tables e below (T22.setTop (mkF m 105 #[.val (.int p1), .val (.int p2), .val (.int p3), .val (.int t), .val (.int q), .val (.int r), .val (.ref b1), .val (.ref b8), .unset, .unset] [(.ref b15), (.ref b15)])) _
  refine XS.bipush X22.here hx rfl (hb hby at_105) ?_
  show Steps p.tables e below (T22.setTop (mkF m 107 #[.val (.int p1), .val (.int p2), .val (.int p3), .val (.int t), .val (.int q), .val (.int r), .val (.ref b1), .val (.ref b8), .unset, .unset] [(.int 7), (.ref b15), (.ref b15)])) _
  refine XS.iconst X22.here hx rfl (hb hby at_107) ?_
  show Steps p.tables e below (T22.setTop (mkF m 108 #[.val (.int p1), .val (.int p2), .val (.int p3), .val (.int t), .val (.int q), .val (.int r), .val (.ref b1), .val (.ref b8), .unset, .unset] [(.int 1), (.int 7), (.ref b15), (.ref b15)])) _
  refine st23 _ ?_
  show Steps p.tables e below (T23.setTop (mkF m 109 #[.val (.int p1), .val (.int p2), .val (.int p3), .val (.int t), .val (.int q), .val (.int r), .val (.ref b1), .val (.ref b8), .unset, .unset] [(.ref b15)])) _
  refine XS.dup X23.here hx rfl (hb hby at_109) rfl rfl ?_
  show Steps p.tables e below (T23.setTop (mkF m 110 #[.val (.int p1), .val (.int p2), .val (.int p3), .val (.int t), .val (.int q), .val (.int r), .val (.ref b1), .val (.ref b8), .unset, .unset] [(.ref b15), (.ref b15)])) _
  refine XS.bipush X23.here hx rfl (hb hby at_110) ?_
  show Steps p.tables e below (T23.setTop (mkF m 112 #[.val (.int p1), .val (.int p2), .val (.int p3), .val (.int t), .val (.int q), .val (.int r), .val (.ref b1), .val (.ref b8), .unset, .unset] [(.int 8), (.ref b15), (.ref b15)])) _
  refine XS.iconst X23.here hx rfl (hb hby at_112) ?_
  show Steps p.tables e below (T23.setTop (mkF m 113 #[.val (.int p1), .val (.int p2), .val (.int p3), .val (.int t), .val (.int q), .val (.int r), .val (.ref b1), .val (.ref b8), .unset, .unset] [(.int 2), (.int 8), (.ref b15), (.ref b15)])) _
  refine st24 _ ?_
  show Steps p.tables e below (T24.setTop (mkF m 114 #[.val (.int p1), .val (.int p2), .val (.int p3), .val (.int t), .val (.int q), .val (.int r), .val (.ref b1), .val (.ref b8), .unset, .unset] [(.ref b15)])) _
  refine XS.dup X24.here hx rfl (hb hby at_114) rfl rfl ?_
  show Steps p.tables e below (T24.setTop (mkF m 115 #[.val (.int p1), .val (.int p2), .val (.int p3), .val (.int t), .val (.int q), .val (.int r), .val (.ref b1), .val (.ref b8), .unset, .unset] [(.ref b15), (.ref b15)])) _
  refine XS.bipush X24.here hx rfl (hb hby at_115) ?_
  show Steps p.tables e below (T24.setTop (mkF m 117 #[.val (.int p1), .val (.int p2), .val (.int p3), .val (.int t), .val (.int q), .val (.int r), .val (.ref b1), .val (.ref b8), .unset, .unset] [(.int 9), (.ref b15), (.ref b15)])) _
  refine XS.iconst X24.here hx rfl (hb hby at_117) ?_
  show Steps p.tables e below (T24.setTop (mkF m 118 #[.val (.int p1), .val (.int p2), .val (.int p3), .val (.int t), .val (.int q), .val (.int r), .val (.ref b1), .val (.ref b8), .unset, .unset] [(.int 0), (.int 9), (.ref b15), (.ref b15)])) _
  refine st25 _ ?_
  show Steps p.tables e below (T25.setTop (mkF m 119 #[.val (.int p1), .val (.int p2), .val (.int p3), .val (.int t), .val (.int q), .val (.int r), .val (.ref b1), .val (.ref b8), .unset, .unset] [(.ref b15)])) _
  refine XS.dup X25.here hx rfl (hb hby at_119) rfl rfl ?_
  show Steps p.tables e below (T25.setTop (mkF m 120 #[.val (.int p1), .val (.int p2), .val (.int p3), .val (.int t), .val (.int q), .val (.int r), .val (.ref b1), .val (.ref b8), .unset, .unset] [(.ref b15), (.ref b15)])) _
  refine XS.bipush X25.here hx rfl (hb hby at_120) ?_
  show Steps p.tables e below (T25.setTop (mkF m 122 #[.val (.int p1), .val (.int p2), .val (.int p3), .val (.int t), .val (.int q), .val (.int r), .val (.ref b1), .val (.ref b8), .unset, .unset] [(.int 10), (.ref b15), (.ref b15)])) _
  refine XS.iconst X25.here hx rfl (hb hby at_122) ?_
  show Steps p.tables e below (T25.setTop (mkF m 123 #[.val (.int p1), .val (.int p2), .val (.int p3), .val (.int t), .val (.int q), .val (.int r), .val (.ref b1), .val (.ref b8), .unset, .unset] [(.int 0), (.int 10), (.ref b15), (.ref b15)])) _
  refine st26 _ ?_
  show Steps p.tables e below (T26.setTop (mkF m 124 #[.val (.int p1), .val (.int p2), .val (.int p3), .val (.int t), .val (.int q), .val (.int r), .val (.ref b1), .val (.ref b8), .unset, .unset] [(.ref b15)])) _
  refine XS.dup X26.here hx rfl (hb hby at_124) rfl rfl ?_
  show Steps p.tables e below (T26.setTop (mkF m 125 #[.val (.int p1), .val (.int p2), .val (.int p3), .val (.int t), .val (.int q), .val (.int r), .val (.ref b1), .val (.ref b8), .unset, .unset] [(.ref b15), (.ref b15)])) _
  refine XS.bipush X26.here hx rfl (hb hby at_125) ?_
  show Steps p.tables e below (T26.setTop (mkF m 127 #[.val (.int p1), .val (.int p2), .val (.int p3), .val (.int t), .val (.int q), .val (.int r), .val (.ref b1), .val (.ref b8), .unset, .unset] [(.int 11), (.ref b15), (.ref b15)])) _
  refine XS.iconst X26.here hx rfl (hb hby at_127) ?_
  show Steps p.tables e below (T26.setTop (mkF m 128 #[.val (.int p1), .val (.int p2), .val (.int p3), .val (.int t), .val (.int q), .val (.int r), .val (.ref b1), .val (.ref b8), .unset, .unset] [(.int 0), (.int 11), (.ref b15), (.ref b15)])) _
  refine st27 _ ?_
  show Steps p.tables e below (T27.setTop (mkF m 129 #[.val (.int p1), .val (.int p2), .val (.int p3), .val (.int t), .val (.int q), .val (.int r), .val (.ref b1), .val (.ref b8), .unset, .unset] [(.ref b15)])) _
  refine XS.dup X27.here hx rfl (hb hby at_129) rfl rfl ?_
  show Steps p.tables e below (T27.setTop (mkF m 130 #[.val (.int p1), .val (.int p2), .val (.int p3), .val (.int t), .val (.int q), .val (.int r), .val (.ref b1), .val (.ref b8), .unset, .unset] [(.ref b15), (.ref b15)])) _
  refine XS.bipush X27.here hx rfl (hb hby at_130) ?_
  show Steps p.tables e below (T27.setTop (mkF m 132 #[.val (.int p1), .val (.int p2), .val (.int p3), .val (.int t), .val (.int q), .val (.int r), .val (.ref b1), .val (.ref b8), .unset, .unset] [(.int 12), (.ref b15), (.ref b15)])) _
  refine XS.iconst X27.here hx rfl (hb hby at_132) ?_
  show Steps p.tables e below (T27.setTop (mkF m 133 #[.val (.int p1), .val (.int p2), .val (.int p3), .val (.int t), .val (.int q), .val (.int r), .val (.ref b1), .val (.ref b8), .unset, .unset] [(.int 1), (.int 12), (.ref b15), (.ref b15)])) _
  refine st28 _ ?_
  show Steps p.tables e below (T28.setTop (mkF m 134 #[.val (.int p1), .val (.int p2), .val (.int p3), .val (.int t), .val (.int q), .val (.int r), .val (.ref b1), .val (.ref b8), .unset, .unset] [(.ref b15)])) _
  refine XS.dup X28.here hx rfl (hb hby at_134) rfl rfl ?_
  show Steps p.tables e below (T28.setTop (mkF m 135 #[.val (.int p1), .val (.int p2), .val (.int p3), .val (.int t), .val (.int q), .val (.int r), .val (.ref b1), .val (.ref b8), .unset, .unset] [(.ref b15), (.ref b15)])) _
  refine XS.bipush X28.here hx rfl (hb hby at_135) ?_
  show Steps p.tables e below (T28.setTop (mkF m 137 #[.val (.int p1), .val (.int p2), .val (.int p3), .val (.int t), .val (.int q), .val (.int r), .val (.ref b1), .val (.ref b8), .unset, .unset] [(.int 13), (.ref b15), (.ref b15)])) _
  refine XS.iconst X28.here hx rfl (hb hby at_137) ?_
  show Steps p.tables e below (T28.setTop (mkF m 138 #[.val (.int p1), .val (.int p2), .val (.int p3), .val (.int t), .val (.int q), .val (.int r), .val (.ref b1), .val (.ref b8), .unset, .unset] [(.int 1), (.int 13), (.ref b15), (.ref b15)])) _
  refine st29 _ ?_
  show Steps p.tables e below (T29.setTop (mkF m 139 #[.val (.int p1), .val (.int p2), .val (.int p3), .val (.int t), .val (.int q), .val (.int r), .val (.ref b1), .val (.ref b8), .unset, .unset] [(.ref b15)])) _
  refine XS.dup X29.here hx rfl (hb hby at_139) rfl rfl ?_
  show Steps p.tables e below (T29.setTop (mkF m 140 #[.val (.int p1), .val (.int p2), .val (.int p3), .val (.int t), .val (.int q), .val (.int r), .val (.ref b1), .val (.ref b8), .unset, .unset] [(.ref b15), (.ref b15)])) _
  refine XS.bipush X29.here hx rfl (hb hby at_140) ?_
  show Steps p.tables e below (T29.setTop (mkF m 142 #[.val (.int p1), .val (.int p2), .val (.int p3), .val (.int t), .val (.int q), .val (.int r), .val (.ref b1), .val (.ref b8), .unset, .unset] [(.int 14), (.ref b15), (.ref b15)])) _
  refine XS.iconst X29.here hx rfl (hb hby at_142) ?_
  show Steps p.tables e below (T29.setTop (mkF m 143 #[.val (.int p1), .val (.int p2), .val (.int p3), .val (.int t), .val (.int q), .val (.int r), .val (.ref b1), .val (.ref b8), .unset, .unset] [(.int 1), (.int 14), (.ref b15), (.ref b15)])) _
  refine st30 _ ?_
  show Steps p.tables e below (T30.setTop (mkF m 144 #[.val (.int p1), .val (.int p2), .val (.int p3), .val (.int t), .val (.int q), .val (.int r), .val (.ref b1), .val (.ref b8), .unset, .unset] [(.ref b15)])) _
  refine XS.dup X30.here hx rfl (hb hby at_144) rfl rfl ?_
  show Steps p.tables e below (T30.setTop (mkF m 145 #[.val (.int p1), .val (.int p2), .val (.int p3), .val (.int t), .val (.int q), .val (.int r), .val (.ref b1), .val (.ref b8), .unset, .unset] [(.ref b15), (.ref b15)])) _
  refine XS.bipush X30.here hx rfl (hb hby at_145) ?_
  show Steps p.tables e below (T30.setTop (mkF m 147 #[.val (.int p1), .val (.int p2), .val (.int p3), .val (.int t), .val (.int q), .val (.int r), .val (.ref b1), .val (.ref b8), .unset, .unset] [(.int 15), (.ref b15), (.ref b15)])) _
  refine XS.iconst X30.here hx rfl (hb hby at_147) ?_
  show Steps p.tables e below (T30.setTop (mkF m 148 #[.val (.int p1), .val (.int p2), .val (.int p3), .val (.int t), .val (.int q), .val (.int r), .val (.ref b1), .val (.ref b8), .unset, .unset] [(.int 0), (.int 15), (.ref b15), (.ref b15)])) _
  refine st31 _ ?_
  show Steps p.tables e below (T31.setTop (mkF m 149 #[.val (.int p1), .val (.int p2), .val (.int p3), .val (.int t), .val (.int q), .val (.int r), .val (.ref b1), .val (.ref b8), .unset, .unset] [(.ref b15)])) _
  refine XS.dup X31.here hx rfl (hb hby at_149) rfl rfl ?_
  show Steps p.tables e below (T31.setTop (mkF m 150 #[.val (.int p1), .val (.int p2), .val (.int p3), .val (.int t), .val (.int q), .val (.int r), .val (.ref b1), .val (.ref b8), .unset, .unset] [(.ref b15), (.ref b15)])) _
  refine XS.bipush X31.here hx rfl (hb hby at_150) ?_
  show Steps p.tables e below (T31.setTop (mkF m 152 #[.val (.int p1), .val (.int p2), .val (.int p3), .val (.int t), .val (.int q), .val (.int r), .val (.ref b1), .val (.ref b8), .unset, .unset] [(.int 16), (.ref b15), (.ref b15)])) _
  refine XS.iconst X31.here hx rfl (hb hby at_152) ?_
  show Steps p.tables e below (T31.setTop (mkF m 153 #[.val (.int p1), .val (.int p2), .val (.int p3), .val (.int t), .val (.int q), .val (.int r), .val (.ref b1), .val (.ref b8), .unset, .unset] [(.int 1), (.int 16), (.ref b15), (.ref b15)])) _
  refine st32 _ ?_
  show Steps p.tables e below (T32.setTop (mkF m 154 #[.val (.int p1), .val (.int p2), .val (.int p3), .val (.int t), .val (.int q), .val (.int r), .val (.ref b1), .val (.ref b8), .unset, .unset] [(.ref b15)])) _
  refine XS.dup X32.here hx rfl (hb hby at_154) rfl rfl ?_
  show Steps p.tables e below (T32.setTop (mkF m 155 #[.val (.int p1), .val (.int p2), .val (.int p3), .val (.int t), .val (.int q), .val (.int r), .val (.ref b1), .val (.ref b8), .unset, .unset] [(.ref b15), (.ref b15)])) _
  refine XS.bipush X32.here hx rfl (hb hby at_155) ?_
  show Steps p.tables e below (T32.setTop (mkF m 157 #[.val (.int p1), .val (.int p2), .val (.int p3), .val (.int t), .val (.int q), .val (.int r), .val (.ref b1), .val (.ref b8), .unset, .unset] [(.int 17), (.ref b15), (.ref b15)])) _
  refine XS.iconst X32.here hx rfl (hb hby at_157) ?_
  show Steps p.tables e below (T32.setTop (mkF m 158 #[.val (.int p1), .val (.int p2), .val (.int p3), .val (.int t), .val (.int q), .val (.int r), .val (.ref b1), .val (.ref b8), .unset, .unset] [(.int 2), (.int 17), (.ref b15), (.ref b15)])) _
  refine st33 _ ?_
  show Steps p.tables e below (T33.setTop (mkF m 159 #[.val (.int p1), .val (.int p2), .val (.int p3), .val (.int t), .val (.int q), .val (.int r), .val (.ref b1), .val (.ref b8), .unset, .unset] [(.ref b15)])) _
  refine XS.dup X33.here hx rfl (hb hby at_159) rfl rfl ?_
  show Steps p.tables e below (T33.setTop (mkF m 160 #[.val (.int p1), .val (.int p2), .val (.int p3), .val (.int t), .val (.int q), .val (.int r), .val (.ref b1), .val (.ref b8), .unset, .unset] [(.ref b15), (.ref b15)])) _
  refine XS.bipush X33.here hx rfl (hb hby at_160) ?_
  show Steps p.tables e below (T33.setTop (mkF m 162 #[.val (.int p1), .val (.int p2), .val (.int p3), .val (.int t), .val (.int q), .val (.int r), .val (.ref b1), .val (.ref b8), .unset, .unset] [(.int 18), (.ref b15), (.ref b15)])) _
  refine XS.iconst X33.here hx rfl (hb hby at_162) ?_
  show Steps p.tables e below (T33.setTop (mkF m 163 #[.val (.int p1), .val (.int p2), .val (.int p3), .val (.int t), .val (.int q), .val (.int r), .val (.ref b1), .val (.ref b8), .unset, .unset] [(.int 0), (.int 18), (.ref b15), (.ref b15)])) _
  refine st34 _ ?_
  show Steps p.tables e below (T34.setTop (mkF m 164 #[.val (.int p1), .val (.int p2), .val (.int p3), .val (.int t), .val (.int q), .val (.int r), .val (.ref b1), .val (.ref b8), .unset, .unset] [(.ref b15)])) _
  refine XS.dup X34.here hx rfl (hb hby at_164) rfl rfl ?_
  show Steps p.tables e below (T34.setTop (mkF m 165 #[.val (.int p1), .val (.int p2), .val (.int p3), .val (.int t), .val (.int q), .val (.int r), .val (.ref b1), .val (.ref b8), .unset, .unset] [(.ref b15), (.ref b15)])) _
  refine XS.bipush X34.here hx rfl (hb hby at_165) ?_
  show Steps p.tables e below (T34.setTop (mkF m 167 #[.val (.int p1), .val (.int p2), .val (.int p3), .val (.int t), .val (.int q), .val (.int r), .val (.ref b1), .val (.ref b8), .unset, .unset] [(.int 19), (.ref b15), (.ref b15)])) _
  refine XS.iconst X34.here hx rfl (hb hby at_167) ?_
  show Steps p.tables e below (T34.setTop (mkF m 168 #[.val (.int p1), .val (.int p2), .val (.int p3), .val (.int t), .val (.int q), .val (.int r), .val (.ref b1), .val (.ref b8), .unset, .unset] [(.int 1), (.int 19), (.ref b15), (.ref b15)])) _
  refine st35 _ ?_
  show Steps p.tables e below (T35.setTop (mkF m 169 #[.val (.int p1), .val (.int p2), .val (.int p3), .val (.int t), .val (.int q), .val (.int r), .val (.ref b1), .val (.ref b8), .unset, .unset] [(.ref b15)])) _
  refine XS.dup X35.here hx rfl (hb hby at_169) rfl rfl ?_
  show Steps p.tables e below (T35.setTop (mkF m 170 #[.val (.int p1), .val (.int p2), .val (.int p3), .val (.int t), .val (.int q), .val (.int r), .val (.ref b1), .val (.ref b8), .unset, .unset] [(.ref b15), (.ref b15)])) _
  refine XS.bipush X35.here hx rfl (hb hby at_170) ?_
  show Steps p.tables e below (T35.setTop (mkF m 172 #[.val (.int p1), .val (.int p2), .val (.int p3), .val (.int t), .val (.int q), .val (.int r), .val (.ref b1), .val (.ref b8), .unset, .unset] [(.int 20), (.ref b15), (.ref b15)])) _
  refine XS.iconst X35.here hx rfl (hb hby at_172) ?_
  show Steps p.tables e below (T35.setTop (mkF m 173 #[.val (.int p1), .val (.int p2), .val (.int p3), .val (.int t), .val (.int q), .val (.int r), .val (.ref b1), .val (.ref b8), .unset, .unset] [(.int 1), (.int 20), (.ref b15), (.ref b15)])) _
  refine st36 _ ?_
  show Steps p.tables e below (T36.setTop (mkF m 174 #[.val (.int p1), .val (.int p2), .val (.int p3), .val (.int t), .val (.int q), .val (.int r), .val (.ref b1), .val (.ref b8), .unset, .unset] [(.ref b15)])) _
  refine XS.dup X36.here hx rfl (hb hby at_174) rfl rfl ?_
  show Steps p.tables e below (T36.setTop (mkF m 175 #[.val (.int p1), .val (.int p2), .val (.int p3), .val (.int t), .val (.int q), .val (.int r), .val (.ref b1), .val (.ref b8), .unset, .unset] [(.ref b15), (.ref b15)])) _
  refine XS.bipush X36.here hx rfl (hb hby at_175) ?_
  show Steps p.tables e below (T36.setTop (mkF m 177 #[.val (.int p1), .val (.int p2), .val (.int p3), .val (.int t), .val (.int q), .val (.int r), .val (.ref b1), .val (.ref b8), .unset, .unset] [(.int 21), (.ref b15), (.ref b15)])) _
  refine XS.iconst X36.here hx rfl (hb hby at_177) ?_
  show Steps p.tables e below (T36.setTop (mkF m 178 #[.val (.int p1), .val (.int p2), .val (.int p3), .val (.int t), .val (.int q), .val (.int r), .val (.ref b1), .val (.ref b8), .unset, .unset] [(.int 1), (.int 21), (.ref b15), (.ref b15)])) _
  refine st37 _ ?_
  show Steps p.tables e below (T37.setTop (mkF m 179 #[.val (.int p1), .val (.int p2), .val (.int p3), .val (.int t), .val (.int q), .val (.int r), .val (.ref b1), .val (.ref b8), .unset, .unset] [(.ref b15)])) _
  refine XS.dup X37.here hx rfl (hb hby at_179) rfl rfl ?_
  show Steps p.tables e below (T37.setTop (mkF m 180 #[.val (.int p1), .val (.int p2), .val (.int p3), .val (.int t), .val (.int q), .val (.int r), .val (.ref b1), .val (.ref b8), .unset, .unset] [(.ref b15), (.ref b15)])) _
  refine XS.bipush X37.here hx rfl (hb hby at_180) ?_
  show Steps p.tables e below (T37.setTop (mkF m 182 #[.val (.int p1), .val (.int p2), .val (.int p3), .val (.int t), .val (.int q), .val (.int r), .val (.ref b1), .val (.ref b8), .unset, .unset] [(.int 22), (.ref b15), (.ref b15)])) _
  refine XS.iconst X37.here hx rfl (hb hby at_182) ?_
  show Steps p.tables e below (T37.setTop (mkF m 183 #[.val (.int p1), .val (.int p2), .val (.int p3), .val (.int t), .val (.int q), .val (.int r), .val (.ref b1), .val (.ref b8), .unset, .unset] [(.int 1), (.int 22), (.ref b15), (.ref b15)])) _
  refine st38 _ ?_
  show Steps p.tables e below (T38.setTop (mkF m 184 #[.val (.int p1), .val (.int p2), .val (.int p3), .val (.int t), .val (.int q), .val (.int r), .val (.ref b1), .val (.ref b8), .unset, .unset] [(.ref b15)])) _
  refine XS.dup X38.here hx rfl (hb hby at_184) rfl rfl ?_
  show Steps p.tables e below (T38.setTop (mkF m 185 #[.val (.int p1), .val (.int p2), .val (.int p3), .val (.int t), .val (.int q), .val (.int r), .val (.ref b1), .val (.ref b8), .unset, .unset] [(.ref b15), (.ref b15)])) _
  refine XS.bipush X38.here hx rfl (hb hby at_185) ?_
  show Steps p.tables e below (T38.setTop (mkF m 187 #[.val (.int p1), .val (.int p2), .val (.int p3), .val (.int t), .val (.int q), .val (.int r), .val (.ref b1), .val (.ref b8), .unset, .unset] [(.int 23), (.ref b15), (.ref b15)])) _
  refine XS.iconst X38.here hx rfl (hb hby at_187) ?_
  show Steps p.tables e below (T38.setTop (mkF m 188 #[.val (.int p1), .val (.int p2), .val (.int p3), .val (.int t), .val (.int q), .val (.int r), .val (.ref b1), .val (.ref b8), .unset, .unset] [(.int 1), (.int 23), (.ref b15), (.ref b15)])) _
  refine st39 _ ?_
  show Steps p.tables e below (T39.setTop (mkF m 189 #[.val (.int p1), .val (.int p2), .val (.int p3), .val (.int t), .val (.int q), .val (.int r), .val (.ref b1), .val (.ref b8), .unset, .unset] [(.ref b15)])) _
  refine XS.dup X39.here hx rfl (hb hby at_189) rfl rfl ?_
  show Steps p.tables e below (T39.setTop (mkF m 190 #[.val (.int p1), .val (.int p2), .val (.int p3), .val (.int t), .val (.int q), .val (.int r), .val (.ref b1), .val (.ref b8), .unset, .unset] [(.ref b15), (.ref b15)])) _
  refine XS.bipush X39.here hx rfl (hb hby at_190) ?_
  show Steps p.tables e below (T39.setTop (mkF m 192 #[.val (.int p1), .val (.int p2), .val (.int p3), .val (.int t), .val (.int q), .val (.int r), .val (.ref b1), .val (.ref b8), .unset, .unset] [(.int 24), (.ref b15), (.ref b15)])) _
  refine XS.iconst X39.here hx rfl (hb hby at_192) ?_
  show Steps p.tables e below (T39.setTop (mkF m 193 #[.val (.int p1), .val (.int p2), .val (.int p3), .val (.int t), .val (.int q), .val (.int r), .val (.ref b1), .val (.ref b8), .unset, .unset] [(.int 1), (.int 24), (.ref b15), (.ref b15)])) _
  refine st40 _ ?_
  show Steps p.tables e below (T40.setTop (mkF m 194 #[.val (.int p1), .val (.int p2), .val (.int p3), .val (.int t), .val (.int q), .val (.int r), .val (.ref b1), .val (.ref b8), .unset, .unset] [(.ref b15)])) _
  refine XS.dup X40.here hx rfl (hb hby at_194) rfl rfl ?_
  show Steps p.tables e below (T40.setTop (mkF m 195 #[.val (.int p1), .val (.int p2), .val (.int p3), .val (.int t), .val (.int q), .val (.int r), .val (.ref b1), .val (.ref b8), .unset, .unset] [(.ref b15), (.ref b15)])) _
  refine XS.bipush X40.here hx rfl (hb hby at_195) ?_
  show Steps p.tables e below (T40.setTop (mkF m 197 #[.val (.int p1), .val (.int p2), .val (.int p3), .val (.int t), .val (.int q), .val (.int r), .val (.ref b1), .val (.ref b8), .unset, .unset] [(.int 25), (.ref b15), (.ref b15)])) _
  refine XS.iconst X40.here hx rfl (hb hby at_197) ?_
  show Steps p.tables e below (T40.setTop (mkF m 198 #[.val (.int p1), .val (.int p2), .val (.int p3), .val (.int t), .val (.int q), .val (.int r), .val (.ref b1), .val (.ref b8), .unset, .unset] [(.int 1), (.int 25), (.ref b15), (.ref b15)])) _
  refine st41 _ ?_
  show Steps p.tables e below (T41.setTop (mkF m 199 #[.val (.int p1), .val (.int p2), .val (.int p3), .val (.int t), .val (.int q), .val (.int r), .val (.ref b1), .val (.ref b8), .unset, .unset] [(.ref b15)])) _
  refine XS.dup X41.here hx rfl (hb hby at_199) rfl rfl ?_
  show Steps p.tables e below (T41.setTop (mkF m 200 #[.val (.int p1), .val (.int p2), .val (.int p3), .val (.int t), .val (.int q), .val (.int r), .val (.ref b1), .val (.ref b8), .unset, .unset] [(.ref b15), (.ref b15)])) _
  refine XS.bipush X41.here hx rfl (hb hby at_200) ?_
  show Steps p.tables e below (T41.setTop (mkF m 202 #[.val (.int p1), .val (.int p2), .val (.int p3), .val (.int t), .val (.int q), .val (.int r), .val (.ref b1), .val (.ref b8), .unset, .unset] [(.int 26), (.ref b15), (.ref b15)])) _
  refine XS.iconst X41.here hx rfl (hb hby at_202) ?_
  show Steps p.tables e below (T41.setTop (mkF m 203 #[.val (.int p1), .val (.int p2), .val (.int p3), .val (.int t), .val (.int q), .val (.int r), .val (.ref b1), .val (.ref b8), .unset, .unset] [(.int 1), (.int 26), (.ref b15), (.ref b15)])) _
  refine st42 _ ?_
  show Steps p.tables e below (T42.setTop (mkF m 204 #[.val (.int p1), .val (.int p2), .val (.int p3), .val (.int t), .val (.int q), .val (.int r), .val (.ref b1), .val (.ref b8), .unset, .unset] [(.ref b15)])) _
  refine XS.astore X42.here hx rfl (hb hby at_204) rfl rfl (l' := #[.val (.int p1), .val (.int p2), .val (.int p3), .val (.int t), .val (.int q), .val (.int r), .val (.ref b1), .val (.ref b8), .val (.ref b15), .unset]) rfl ?_
  show Steps p.tables e below (T42.setTop (mkF m 206 #[.val (.int p1), .val (.int p2), .val (.int p3), .val (.int t), .val (.int q), .val (.int r), .val (.ref b1), .val (.ref b8), .val (.ref b15), .unset] [])) _
  exact kt
def Q2_w_CHILD_OVERRIDES (Z : State) (w_CHILD_OVERRIDES : Addr) (h0 : Heap) (n0 : Nat) (v : Option Value) (h : Heap) (L : List Loc) : Prop := v = some (.int 0) ∧ Fr n0 L ∧ h = h0
set_option maxRecDepth 65536 in
set_option maxHeartbeats 40000000 in
theorem rm2_w_CHILD_OVERRIDES (l : Launch) (Z : State) (a0 : Array Value) (hw : ∀ d ∈ tables_1, d.before a0 Z = true) (ws : List Jvm.Cond) (w_CHILD_OVERRIDES : Addr) (h0 : Heap) (n0 : Nat) (Z0 : n0 ≤ h0.size) (F_ordinal_w_CHILD_OVERRIDES : Fld Z h0 w_CHILD_OVERRIDES "java/lang/Enum" "ordinal" "I" (.int 0)) :
    MetFree l (⟨"java/lang/Enum", "ordinal", "()I"⟩ : MethodName) (head1 (Jvm.Cond.code (⟨"java/lang/Enum", "ordinal", "()I"⟩ : MethodName) jdk_37_method_2_code 1 (some .int) :: ws) ({ frames := 0, cells := 0, slots := 0, locals := 0 } : Room)) (fun a U => a = #[(.ref w_CHILD_OVERRIDES)] ∧ Z.Warmed39 U.vm ∧ U.heap = h0) (fun _ _ _ _ _ => True) (fun _ U o U' => ∃ v L, o = .returned v ∧ Q2_w_CHILD_OVERRIDES Z w_CHILD_OVERRIDES h0 n0 v U'.heap L ∧ FrameEnd U o U' L ({ frames := 0, cells := 0, slots := 0, locals := 0 } : Room).cells ({ frames := 0, cells := 0, slots := 0, locals := 0 } : Room).slots) := by
  refine MetFree.of_bodySF (plainFor_of_name pn_2) hisR ?_
  intro p e s m args below meth c s₁ Bd hml0 hP hK
  obtain ⟨rfl, hZ, hh⟩ := hP
  have hx := Bd.exec
  have hby := Bd.bytes
  have hml : c.maxLocals = 1 := hml0
  have hown : s.vm.findClass "java/lang/Enum" = some m.cls := findClass_of_methodNamed Bd.named
  have hnm := (name_of_methodNamed Bd.named Bd.method).1
  have X0 : Stand p l e ({ frames := 0, cells := 0, slots := 0, locals := 0 } : Room) s m #[(.ref w_CHILD_OVERRIDES)] below meth c s₁ [] 0 0 := Stand.of_body Bd
  have e0 : s₁.heap = h0 := by rw [← hh, Bd.state]; rfl
  have N0 := Fr.nil n0
  have pre0 : ∀ t, Steps p.tables e below (s₁.setTop (mkF m 0 #[.val (.ref w_CHILD_OVERRIDES)] [])) t → Steps p.tables e below (s₁.setTop (entryFrame m #[(.ref w_CHILD_OVERRIDES)] 1)) t := fun t k => castTop (by first | (simp [entryFrame, mkF, argsToLocals, Value.category]; done) | rfl) k
  obtain ⟨T1, X1, e1, st1⟩ := getF X0 hx hZ hown (host := "") (Or.inl (hw _ (List.mem_of_getElem? (i := 34) rfl))) Via.refl e0 F_ordinal_w_CHILD_OVERRIDES (g := (mkF m 1 #[.val (.ref w_CHILD_OVERRIDES)] [(.ref w_CHILD_OVERRIDES)])) rfl rfl (hb hby d2_1)
  obtain ⟨fs, hr, hrun, hended, hW, hsame⟩ := X1.leave (v := some (.int 0)) (fun h => by rw [Bd.returns] at h; cases h)
  refine ⟨_, _, pre0 _ ?_, hrun, hended, _, _, rfl, ?_, ⟨_, rfl⟩, hW, hsame.mono (by decide) (by decide)⟩
  · show Steps p.tables e below (s₁.setTop (mkF m 0 #[.val (.ref w_CHILD_OVERRIDES)] [])) _
    refine XS.aloadN X0.here hx rfl (hb hby d2_0) rfl rfl ?_
    show Steps p.tables e below (s₁.setTop (mkF m 1 #[.val (.ref w_CHILD_OVERRIDES)] [(.ref w_CHILD_OVERRIDES)])) _
    refine st1 _ ?_
    show Steps p.tables e below (T1.setTop (mkF m 4 #[.val (.ref w_CHILD_OVERRIDES)] [(.int 0)])) _
    exact retI X1 hx Bd.returns (hb hby d2_4) hr
  · show Q2_w_CHILD_OVERRIDES Z w_CHILD_OVERRIDES h0 n0 _ T1.heap _
    rw [e1]
    exact ⟨rfl, N0, rfl⟩
def Q1_w_CHILD_OVERRIDES_w_PERMIT_w_PERMIT (Z : State) (w_CHILD_OVERRIDES : Addr) (w_PERMIT : Addr) (w_INDETERMINATE : Addr) (h0 : Heap) (n0 : Nat) (v : Option Value) (h : Heap) (L : List Loc) : Prop := v = some (.ref w_PERMIT) ∧ Fr n0 L ∧ h = h0
set_option maxRecDepth 65536 in
set_option maxHeartbeats 40000000 in
theorem rm1_w_CHILD_OVERRIDES_w_PERMIT_w_PERMIT (l : Launch) (Z : State) (a0 : Array Value) (hw : ∀ d ∈ tables_1, d.before a0 Z = true) (ws : List Jvm.Cond) (w_CHILD_OVERRIDES : Addr) (w_PERMIT : Addr) (w_INDETERMINATE : Addr) (h0 : Heap) (n0 : Nat) (Z0 : n0 ≤ h0.size) (F_ordinal_w_CHILD_OVERRIDES : Fld Z h0 w_CHILD_OVERRIDES "java/lang/Enum" "ordinal" "I" (.int 0)) (E_w_CHILD_OVERRIDES : Exa Z h0 w_CHILD_OVERRIDES "com/example/tributary/tributary/AccessList$InheritanceType") (S_INDETERMINATE : Sta Z h0 "com/example/tributary/tributary/AccessList$Decision" "INDETERMINATE" "Lcom/example/tributary/tributary/AccessList$Decision;" (.ref w_INDETERMINATE)) (n_w_INDETERMINATE_w_PERMIT : ¬ (w_INDETERMINATE = w_PERMIT)) :
    MetFree l (⟨"com/example/tributary/tributary/AccessList$InheritanceType", "combine", "(Lcom/example/tributary/tributary/AccessList$Decision;Lcom/example/tributary/tributary/AccessList$Decision;)Lcom/example/tributary/tributary/AccessList$Decision;"⟩ : MethodName) (head1 (Jvm.Cond.code (⟨"com/example/tributary/tributary/AccessList$InheritanceType", "combine", "(Lcom/example/tributary/tributary/AccessList$Decision;Lcom/example/tributary/tributary/AccessList$Decision;)Lcom/example/tributary/tributary/AccessList$Decision;"⟩ : MethodName) prog_6_method_4_code 3 (some (.object "com/example/tributary/tributary/AccessList$Decision")) :: ws) ({ frames := 1, cells := 0, slots := 0, locals := 12 } : Room)) (fun a U => a = #[(.ref w_CHILD_OVERRIDES), (.ref w_PERMIT), (.ref w_PERMIT)] ∧ Z.Warmed39 U.vm ∧ U.heap = h0) (fun _ _ _ _ _ => True) (fun _ U o U' => ∃ v L, o = .returned v ∧ Q1_w_CHILD_OVERRIDES_w_PERMIT_w_PERMIT Z w_CHILD_OVERRIDES w_PERMIT w_INDETERMINATE h0 n0 v U'.heap L ∧ FrameEnd U o U' L ({ frames := 1, cells := 0, slots := 0, locals := 12 } : Room).cells ({ frames := 1, cells := 0, slots := 0, locals := 12 } : Room).slots) := by
  refine MetFree.of_bodySF (plainFor_of_name pn_1) hisR ?_
  intro p e s m args below meth c s₁ Bd hml0 hP hK
  obtain ⟨rfl, hZ, hh⟩ := hP
  have hx := Bd.exec
  have hby := Bd.bytes
  have hml : c.maxLocals = 3 := hml0
  have hown : s.vm.findClass "com/example/tributary/tributary/AccessList$InheritanceType" = some m.cls := findClass_of_methodNamed Bd.named
  have hnm := (name_of_methodNamed Bd.named Bd.method).1
  have X0 : Stand p l e ({ frames := 1, cells := 0, slots := 0, locals := 12 } : Room) s m #[(.ref w_CHILD_OVERRIDES), (.ref w_PERMIT), (.ref w_PERMIT)] below meth c s₁ [] 0 0 := Stand.of_body Bd
  have e0 : s₁.heap = h0 := by rw [← hh, Bd.state]; rfl
  have N0 := Fr.nil n0
  have pre0 : ∀ t, Steps p.tables e below (s₁.setTop (mkF m 0 #[.val (.ref w_CHILD_OVERRIDES), .val (.ref w_PERMIT), .val (.ref w_PERMIT)] [])) t → Steps p.tables e below (s₁.setTop (entryFrame m #[(.ref w_CHILD_OVERRIDES), (.ref w_PERMIT), (.ref w_PERMIT)] 3)) t := fun t k => castTop (by first | (simp [entryFrame, mkF, argsToLocals, Value.category]; done) | rfl) k
  obtain ⟨cq1, kq1, q1a, q1b, q1c⟩ := isOf hZ e0 E_w_CHILD_OVERRIDES
  obtain ⟨_, _, ⟨T1, L1, k1, n1⟩, -, X1, ⟨Lc1, hQ1, l1, y1, z1⟩, st1⟩ := X0.virtualBackUp hx (x := (⟨"com/example/tributary/tributary/AccessList$InheritanceType", "ordinal", "()I"⟩ : MethodName)) (y := (⟨"java/lang/Enum", "ordinal", "()I"⟩ : MethodName)) (owner := "java/lang/Enum") hown (mvT hZ (hw _ (List.mem_of_getElem? (i := 27) rfl))) (mvT hZ (hw _ (List.mem_of_getElem? (i := 28) rfl))) (mvT hZ (hw _ (List.mem_of_getElem? (i := 29) rfl))) (by decide) (mvT hZ (hw _ (List.mem_of_getElem? (i := 31) rfl))) (mvT hZ (hw _ (List.mem_of_getElem? (i := 30) rfl))) (backOf (W := 0) (rm2_w_CHILD_OVERRIDES l Z a0 hw [] w_CHILD_OVERRIDES h0 n0 Z0 F_ordinal_w_CHILD_OVERRIDES) hZ (hw _ (List.mem_of_getElem? (i := 33) rfl)) (hw _ (List.mem_of_getElem? (i := 32) rfl)) (by decide) (by decide)) q1a q1c (g := (mkF m 1 #[.val (.ref w_CHILD_OVERRIDES), .val (.ref w_PERMIT), .val (.ref w_PERMIT)] [(.ref w_CHILD_OVERRIDES)])) rfl (by rw [hml]; rfl) (Steps.refl _) (argsL := []) (rest := []) (lenOf pd___I rfl) rfl (by show 2 * 0 + _ ≤ _; exact Nat.le_of_eq rfl) (hb hby d1_1) (fun _ _ => ⟨rfl, e0, (by decide : 0 + 0 ≤ _), (by decide : 0 + 0 ≤ _)⟩)
  dsimp only [Pt.U, Pt.locs, Pt.cells, Pt.slots] at X1 l1 y1 z1 st1 hQ1
  subst l1 y1 z1
  obtain ⟨rfl, N1q, e1⟩ := hQ1
  have N1 := Fr.app N0 N1q
  obtain ⟨T2, X2, e2, st2⟩ := getS2 X1 hx hZ hown (host := "") (Or.inl (hw _ (List.mem_of_getElem? (i := 36) rfl))) Via.refl e1 S_INDETERMINATE (g := (mkF m 47 #[.val (.ref w_CHILD_OVERRIDES), .val (.ref w_PERMIT), .val (.ref w_PERMIT)] [(.ref w_PERMIT)])) rfl (hb hby d1_47)
  obtain ⟨fs, hr, hrun, hended, hW, hsame⟩ := X2.leave (v := some (.ref w_PERMIT)) (fun h => by rw [Bd.returns] at h; cases h)
  refine ⟨_, _, pre0 _ ?_, hrun, hended, _, _, rfl, ?_, ⟨_, rfl⟩, hW, hsame.mono (by decide) (by decide)⟩
  · show Steps p.tables e below (s₁.setTop (mkF m 0 #[.val (.ref w_CHILD_OVERRIDES), .val (.ref w_PERMIT), .val (.ref w_PERMIT)] [])) _
    refine XS.aloadN X0.here hx rfl (hb hby d1_0) rfl rfl ?_
    show Steps p.tables e below (s₁.setTop (mkF m 1 #[.val (.ref w_CHILD_OVERRIDES), .val (.ref w_PERMIT), .val (.ref w_PERMIT)] [(.ref w_CHILD_OVERRIDES)])) _
    refine st1.trans ?_
    show Steps p.tables e below (T1.setTop (mkF m 4 #[.val (.ref w_CHILD_OVERRIDES), .val (.ref w_PERMIT), .val (.ref w_PERMIT)] [(.int 0)])) _
    refine XS.tswIn X1.here hx rfl (pc0 := 4) (pc' := 46) rfl (hb hby d1_4) rfl (by decide) (o := 42) (by decide) (by decide) (by decide) ?_
    show Steps p.tables e below (T1.setTop (mkF m 46 #[.val (.ref w_CHILD_OVERRIDES), .val (.ref w_PERMIT), .val (.ref w_PERMIT)] [])) _
    refine XS.aloadN X1.here hx rfl (hb hby d1_46) rfl rfl ?_
    show Steps p.tables e below (T1.setTop (mkF m 47 #[.val (.ref w_CHILD_OVERRIDES), .val (.ref w_PERMIT), .val (.ref w_PERMIT)] [(.ref w_PERMIT)])) _
    refine st2 _ ?_
    show Steps p.tables e below (T2.setTop (mkF m 50 #[.val (.ref w_CHILD_OVERRIDES), .val (.ref w_PERMIT), .val (.ref w_PERMIT)] [(.ref w_INDETERMINATE), (.ref w_PERMIT)])) _
    refine Jvm.RoadKit.acmp (g := (mkF m 50 #[.val (.ref w_CHILD_OVERRIDES), .val (.ref w_PERMIT), .val (.ref w_PERMIT)] [(.ref w_INDETERMINATE), (.ref w_PERMIT)])) X2 hx rfl rfl rfl (pc0 := 50) (pc' := 57) (same := false) rfl (hb hby d1_50) rfl (decide_eq_false fun q => (Ne.symm n_w_INDETERMINATE_w_PERMIT) (Value.ref.inj q)) (by decide) (by decide) ?_
    show Steps p.tables e below (T2.setTop (mkF m 57 #[.val (.ref w_CHILD_OVERRIDES), .val (.ref w_PERMIT), .val (.ref w_PERMIT)] [])) _
    refine XS.aloadN X2.here hx rfl (hb hby d1_57) rfl rfl ?_
    show Steps p.tables e below (T2.setTop (mkF m 58 #[.val (.ref w_CHILD_OVERRIDES), .val (.ref w_PERMIT), .val (.ref w_PERMIT)] [(.ref w_PERMIT)])) _
    refine XS.goto X2.here hx rfl (pc0 := 58) (pc' := 112) rfl (hb hby d1_58) (by decide) (by decide) ?_
    show Steps p.tables e below (T2.setTop (mkF m 112 #[.val (.ref w_CHILD_OVERRIDES), .val (.ref w_PERMIT), .val (.ref w_PERMIT)] [(.ref w_PERMIT)])) _
    jvm_step X2.here [X2.here.top, hx, (hb hby d1_112), X2.method', Bd.returns, Value.isRef, FieldType.isReference]
    first | (intro acts; rw [hr _ acts rfl rfl rfl]) | rw [hr _ _ rfl rfl rfl]
    exact Steps.refl _
  · show Q1_w_CHILD_OVERRIDES_w_PERMIT_w_PERMIT Z w_CHILD_OVERRIDES w_PERMIT w_INDETERMINATE h0 n0 _ T2.heap _
    rw [e2]
    exact ⟨rfl, N1, rfl⟩
set_option maxRecDepth 65536 in
set_option maxHeartbeats 40000000 in
theorem pc0_k000 {p : Program} {l : Launch} {e : Env} {s : State} {m : MethodId} {args : Array Value} {below : List Frame} {meth : Method} {c : Code} {T0 : State} {locs : List Loc} {Z : State} {a0 : Array Value} {h0 : Heap} {n0 : Nat} (p1 : Int32) (p2 : Int32) (p3 : Int32) (b1 : Addr) (b8 : Addr) (b15 : Addr) (k1 : ClassId) (w_CHILD_OVERRIDES : Addr) (w_PARENT_OVERRIDES : Addr) (w_AND_BOTH_PERMIT : Addr) (k8 : ClassId) (w_PERMIT : Addr) (w_DENY : Addr) (w_INDETERMINATE : Addr) (k15 : ClassId)
    (X0 : Stand p l e room_1 s m args below meth c T0 locs 3 33) (hx : p.tables.exec = Jvm.exec) (hZ : Z.Warmed39 s.vm) (hw : ∀ d ∈ tables_1, d.before a0 Z = true) (hby : c.code = code) (hml : c.maxLocals = 10) (hown : s.vm.findClass "com/example/tributary/tributary/InheritanceTypeCombinePinLaw" = some m.cls) (e0 : T0.heap = h0) (Z0 : n0 ≤ h0.size) (N0 : Fr n0 locs) (V_b1 : Arv Z h0 b1 k1 (.object "com/example/tributary/tributary/AccessList$InheritanceType") (3 : Int32) [(.ref w_CHILD_OVERRIDES), (.ref w_PARENT_OVERRIDES), (.ref w_AND_BOTH_PERMIT)] .null) (V_b8 : Arv Z h0 b8 k8 (.object "com/example/tributary/tributary/AccessList$Decision") (3 : Int32) [(.ref w_PERMIT), (.ref w_DENY), (.ref w_INDETERMINATE)] .null) (F_ordinal_w_CHILD_OVERRIDES : Fld Z h0 w_CHILD_OVERRIDES "java/lang/Enum" "ordinal" "I" (.int 0)) (E_w_CHILD_OVERRIDES : Exa Z h0 w_CHILD_OVERRIDES "com/example/tributary/tributary/AccessList$InheritanceType") (S_INDETERMINATE : Sta Z h0 "com/example/tributary/tributary/AccessList$Decision" "INDETERMINATE" "Lcom/example/tributary/tributary/AccessList$Decision;" (.ref w_INDETERMINATE)) (n_w_INDETERMINATE_w_PERMIT : ¬ (w_INDETERMINATE = w_PERMIT)) (V_b15 : Arv Z h0 b15 k15 .int (27 : Int32) [(.int 0), (.int 1), (.int 0), (.int 0), (.int 1), (.int 1), (.int 0), (.int 1), (.int 2), (.int 0), (.int 0), (.int 0), (.int 1), (.int 1), (.int 1), (.int 0), (.int 1), (.int 2), (.int 0), (.int 1), (.int 1), (.int 1), (.int 1), (.int 1), (.int 1), (.int 1), (.int 1)] (.int (0 : Int32))) :
    ∃ (T' : State) (L' : List Loc) (Ls : Array Slot), Stand p l e room_1 s m args below meth c T' L' 3 33 ∧ Fr n0 L' ∧ ∀ target, Steps p.tables e below (T'.setTop (mkF m 253 Ls [(.int 1)])) target → Steps p.tables e below (T0.setTop (mkF m 206 #[.val (.int p1), .val (.int p2), .val (.int p3), .val (.int 0), .val (.int 0), .val (.int 0), .val (.ref b1), .val (.ref b8), .val (.ref b15), .unset] [])) target := by
  obtain ⟨cq1, kq1, q1a, q1b, q1c⟩ := isOf hZ e0 E_w_CHILD_OVERRIDES
  obtain ⟨_, _, ⟨T1, L1, k1, n1⟩, -, X1, ⟨Lc1, hQ1, l1, y1, z1⟩, st1⟩ := X0.virtualBack hx (y := (⟨"com/example/tributary/tributary/AccessList$InheritanceType", "combine", "(Lcom/example/tributary/tributary/AccessList$Decision;Lcom/example/tributary/tributary/AccessList$Decision;)Lcom/example/tributary/tributary/AccessList$Decision;"⟩ : MethodName)) (z := (⟨"com/example/tributary/tributary/AccessList$InheritanceType", "combine", "(Lcom/example/tributary/tributary/AccessList$Decision;Lcom/example/tributary/tributary/AccessList$Decision;)Lcom/example/tributary/tributary/AccessList$Decision;"⟩ : MethodName)) hown (mvT hZ (hw _ (List.mem_of_getElem? (i := 22) rfl))) (mvT hZ (hw _ (List.mem_of_getElem? (i := 23) rfl))) (notFace_of_selects (args := #[]) (mvT hZ (hw _ (List.mem_of_getElem? (i := 25) rfl)))) (mvT hZ (hw _ (List.mem_of_getElem? (i := 25) rfl))) (mvT hZ (hw _ (List.mem_of_getElem? (i := 24) rfl))) (by decide) (backOf (W := 0) (rm1_w_CHILD_OVERRIDES_w_PERMIT_w_PERMIT l Z a0 hw [] w_CHILD_OVERRIDES w_PERMIT w_INDETERMINATE h0 n0 Z0 F_ordinal_w_CHILD_OVERRIDES E_w_CHILD_OVERRIDES S_INDETERMINATE n_w_INDETERMINATE_w_PERMIT) hZ (hw _ (List.mem_of_getElem? (i := 26) rfl)) (hw _ (List.mem_of_getElem? (i := 4) rfl)) (by decide) (by decide)) q1a q1c (g := (mkF m 220 #[.val (.int p1), .val (.int p2), .val (.int p3), .val (.int 0), .val (.int 0), .val (.int 0), .val (.ref b1), .val (.ref b8), .val (.ref b15), .unset] [(.ref w_PERMIT), (.ref w_PERMIT), (.ref w_CHILD_OVERRIDES)])) rfl (by rw [hml]; rfl) (Steps.refl _) (argsL := [(.ref w_PERMIT), (.ref w_PERMIT)]) (rest := []) (lenOf pd__Lcom_example_tributary_tributary_AccessList_Decision_Lcom_example_tributary_tributary_AccessList_Decision__Lcom_example_tributary_tributary_AccessList_Decision_ rfl) rfl (by show 2 * 0 + _ ≤ _; exact Nat.le_of_eq rfl) (hb hby at_220) (fun _ _ => ⟨rfl, e0, (by decide : 3 + 0 ≤ _), (by decide : 33 + 0 ≤ _)⟩)
  dsimp only [Pt.U, Pt.locs, Pt.cells, Pt.slots] at X1 l1 y1 z1 st1 hQ1
  subst l1 y1 z1
  obtain ⟨rfl, N1q, e1⟩ := hQ1
  have N1 := Fr.app N0 N1q
  refine ⟨T1, _, #[.val (.int p1), .val (.int p2), .val (.int p3), .val (.int 0), .val (.int 0), .val (.int 0), .val (.ref b1), .val (.ref b8), .val (.ref b15), .val (.ref w_PERMIT)], X1, N1, fun target kt => ?_⟩
  show Steps p.tables e below (T0.setTop (mkF m 206 #[.val (.int p1), .val (.int p2), .val (.int p3), .val (.int 0), .val (.int 0), .val (.int 0), .val (.ref b1), .val (.ref b8), .val (.ref b15), .unset] [])) _
  refine XS.aload X0.here hx rfl (hb hby at_206) rfl rfl ?_
  show Steps p.tables e below (T0.setTop (mkF m 208 #[.val (.int p1), .val (.int p2), .val (.int p3), .val (.int 0), .val (.int 0), .val (.int 0), .val (.ref b1), .val (.ref b8), .val (.ref b15), .unset] [(.ref b1)])) _
  refine XS.iloadN X0.here hx rfl (hb hby at_208) rfl ?_
  show Steps p.tables e below (T0.setTop (mkF m 209 #[.val (.int p1), .val (.int p2), .val (.int p3), .val (.int 0), .val (.int 0), .val (.int 0), .val (.ref b1), .val (.ref b8), .val (.ref b15), .unset] [(.int 0), (.ref b1)])) _
  refine own_ldR X0 hx hZ e0 V_b1 (j := (0 : Int32)) ⟨by decide, by decide⟩ rfl (g := (mkF m 209 #[.val (.int p1), .val (.int p2), .val (.int p3), .val (.int 0), .val (.int 0), .val (.int 0), .val (.ref b1), .val (.ref b8), .val (.ref b15), .unset] [(.int 0), (.ref b1)])) rfl rfl (hb hby at_209) _ ?_
  show Steps p.tables e below (T0.setTop (mkF m 210 #[.val (.int p1), .val (.int p2), .val (.int p3), .val (.int 0), .val (.int 0), .val (.int 0), .val (.ref b1), .val (.ref b8), .val (.ref b15), .unset] [(.ref w_CHILD_OVERRIDES)])) _
  refine XS.aload X0.here hx rfl (hb hby at_210) rfl rfl ?_
  show Steps p.tables e below (T0.setTop (mkF m 212 #[.val (.int p1), .val (.int p2), .val (.int p3), .val (.int 0), .val (.int 0), .val (.int 0), .val (.ref b1), .val (.ref b8), .val (.ref b15), .unset] [(.ref b8), (.ref w_CHILD_OVERRIDES)])) _
  refine XS.iload X0.here hx rfl (hb hby at_212) rfl ?_
  show Steps p.tables e below (T0.setTop (mkF m 214 #[.val (.int p1), .val (.int p2), .val (.int p3), .val (.int 0), .val (.int 0), .val (.int 0), .val (.ref b1), .val (.ref b8), .val (.ref b15), .unset] [(.int 0), (.ref b8), (.ref w_CHILD_OVERRIDES)])) _
  refine own_ldR X0 hx hZ e0 V_b8 (j := (0 : Int32)) ⟨by decide, by decide⟩ rfl (g := (mkF m 214 #[.val (.int p1), .val (.int p2), .val (.int p3), .val (.int 0), .val (.int 0), .val (.int 0), .val (.ref b1), .val (.ref b8), .val (.ref b15), .unset] [(.int 0), (.ref b8), (.ref w_CHILD_OVERRIDES)])) rfl rfl (hb hby at_214) _ ?_
  show Steps p.tables e below (T0.setTop (mkF m 215 #[.val (.int p1), .val (.int p2), .val (.int p3), .val (.int 0), .val (.int 0), .val (.int 0), .val (.ref b1), .val (.ref b8), .val (.ref b15), .unset] [(.ref w_PERMIT), (.ref w_CHILD_OVERRIDES)])) _
  refine XS.aload X0.here hx rfl (hb hby at_215) rfl rfl ?_
  show Steps p.tables e below (T0.setTop (mkF m 217 #[.val (.int p1), .val (.int p2), .val (.int p3), .val (.int 0), .val (.int 0), .val (.int 0), .val (.ref b1), .val (.ref b8), .val (.ref b15), .unset] [(.ref b8), (.ref w_PERMIT), (.ref w_CHILD_OVERRIDES)])) _
  refine XS.iload X0.here hx rfl (hb hby at_217) rfl ?_
  show Steps p.tables e below (T0.setTop (mkF m 219 #[.val (.int p1), .val (.int p2), .val (.int p3), .val (.int 0), .val (.int 0), .val (.int 0), .val (.ref b1), .val (.ref b8), .val (.ref b15), .unset] [(.int 0), (.ref b8), (.ref w_PERMIT), (.ref w_CHILD_OVERRIDES)])) _
  refine own_ldR X0 hx hZ e0 V_b8 (j := (0 : Int32)) ⟨by decide, by decide⟩ rfl (g := (mkF m 219 #[.val (.int p1), .val (.int p2), .val (.int p3), .val (.int 0), .val (.int 0), .val (.int 0), .val (.ref b1), .val (.ref b8), .val (.ref b15), .unset] [(.int 0), (.ref b8), (.ref w_PERMIT), (.ref w_CHILD_OVERRIDES)])) rfl rfl (hb hby at_219) _ ?_
  show Steps p.tables e below (T0.setTop (mkF m 220 #[.val (.int p1), .val (.int p2), .val (.int p3), .val (.int 0), .val (.int 0), .val (.int 0), .val (.ref b1), .val (.ref b8), .val (.ref b15), .unset] [(.ref w_PERMIT), (.ref w_PERMIT), (.ref w_CHILD_OVERRIDES)])) _
  refine st1.trans ?_
  show Steps p.tables e below (T1.setTop (mkF m 223 #[.val (.int p1), .val (.int p2), .val (.int p3), .val (.int 0), .val (.int 0), .val (.int 0), .val (.ref b1), .val (.ref b8), .val (.ref b15), .unset] [(.ref w_PERMIT)])) _
  refine XS.astore X1.here hx rfl (hb hby at_223) rfl rfl (l' := #[.val (.int p1), .val (.int p2), .val (.int p3), .val (.int 0), .val (.int 0), .val (.int 0), .val (.ref b1), .val (.ref b8), .val (.ref b15), .val (.ref w_PERMIT)]) rfl ?_
  show Steps p.tables e below (T1.setTop (mkF m 225 #[.val (.int p1), .val (.int p2), .val (.int p3), .val (.int 0), .val (.int 0), .val (.int 0), .val (.ref b1), .val (.ref b8), .val (.ref b15), .val (.ref w_PERMIT)] [])) _
  refine XS.aload X1.here hx rfl (hb hby at_225) rfl rfl ?_
  show Steps p.tables e below (T1.setTop (mkF m 227 #[.val (.int p1), .val (.int p2), .val (.int p3), .val (.int 0), .val (.int 0), .val (.int 0), .val (.ref b1), .val (.ref b8), .val (.ref b15), .val (.ref w_PERMIT)] [(.ref w_PERMIT)])) _
  refine XS.aload X1.here hx rfl (hb hby at_227) rfl rfl ?_
  show Steps p.tables e below (T1.setTop (mkF m 229 #[.val (.int p1), .val (.int p2), .val (.int p3), .val (.int 0), .val (.int 0), .val (.int 0), .val (.ref b1), .val (.ref b8), .val (.ref b15), .val (.ref w_PERMIT)] [(.ref b8), (.ref w_PERMIT)])) _
  refine XS.aload X1.here hx rfl (hb hby at_229) rfl rfl ?_
  show Steps p.tables e below (T1.setTop (mkF m 231 #[.val (.int p1), .val (.int p2), .val (.int p3), .val (.int 0), .val (.int 0), .val (.int 0), .val (.ref b1), .val (.ref b8), .val (.ref b15), .val (.ref w_PERMIT)] [(.ref b15), (.ref b8), (.ref w_PERMIT)])) _
  refine XS.iloadN X1.here hx rfl (hb hby at_231) rfl ?_
  show Steps p.tables e below (T1.setTop (mkF m 232 #[.val (.int p1), .val (.int p2), .val (.int p3), .val (.int 0), .val (.int 0), .val (.int 0), .val (.ref b1), .val (.ref b8), .val (.ref b15), .val (.ref w_PERMIT)] [(.int 0), (.ref b15), (.ref b8), (.ref w_PERMIT)])) _
  refine XS.bipush X1.here hx rfl (hb hby at_232) ?_
  show Steps p.tables e below (T1.setTop (mkF m 234 #[.val (.int p1), .val (.int p2), .val (.int p3), .val (.int 0), .val (.int 0), .val (.int 0), .val (.ref b1), .val (.ref b8), .val (.ref b15), .val (.ref w_PERMIT)] [(.int 9), (.int 0), (.ref b15), (.ref b8), (.ref w_PERMIT)])) _
  refine XS.imul X1.here hx rfl (hb hby at_234) rfl ?_
  show Steps p.tables e below (T1.setTop (mkF m 235 #[.val (.int p1), .val (.int p2), .val (.int p3), .val (.int 0), .val (.int 0), .val (.int 0), .val (.ref b1), .val (.ref b8), .val (.ref b15), .val (.ref w_PERMIT)] [(.int ((0 : Int32) * (9 : Int32))), (.ref b15), (.ref b8), (.ref w_PERMIT)])) _
  rw [(by decide : ((0 : Int32) * (9 : Int32)) = (0 : Int32))]
  show Steps p.tables e below (T1.setTop (mkF m 235 #[.val (.int p1), .val (.int p2), .val (.int p3), .val (.int 0), .val (.int 0), .val (.int 0), .val (.ref b1), .val (.ref b8), .val (.ref b15), .val (.ref w_PERMIT)] [(.int 0), (.ref b15), (.ref b8), (.ref w_PERMIT)])) _
  refine XS.iload X1.here hx rfl (hb hby at_235) rfl ?_
  show Steps p.tables e below (T1.setTop (mkF m 237 #[.val (.int p1), .val (.int p2), .val (.int p3), .val (.int 0), .val (.int 0), .val (.int 0), .val (.ref b1), .val (.ref b8), .val (.ref b15), .val (.ref w_PERMIT)] [(.int 0), (.int 0), (.ref b15), (.ref b8), (.ref w_PERMIT)])) _
  refine XS.iconst X1.here hx rfl (hb hby at_237) ?_
  show Steps p.tables e below (T1.setTop (mkF m 238 #[.val (.int p1), .val (.int p2), .val (.int p3), .val (.int 0), .val (.int 0), .val (.int 0), .val (.ref b1), .val (.ref b8), .val (.ref b15), .val (.ref w_PERMIT)] [(.int 3), (.int 0), (.int 0), (.ref b15), (.ref b8), (.ref w_PERMIT)])) _
  refine XS.imul X1.here hx rfl (hb hby at_238) rfl ?_
  show Steps p.tables e below (T1.setTop (mkF m 239 #[.val (.int p1), .val (.int p2), .val (.int p3), .val (.int 0), .val (.int 0), .val (.int 0), .val (.ref b1), .val (.ref b8), .val (.ref b15), .val (.ref w_PERMIT)] [(.int ((0 : Int32) * (3 : Int32))), (.int 0), (.ref b15), (.ref b8), (.ref w_PERMIT)])) _
  rw [(by decide : ((0 : Int32) * (3 : Int32)) = (0 : Int32))]
  show Steps p.tables e below (T1.setTop (mkF m 239 #[.val (.int p1), .val (.int p2), .val (.int p3), .val (.int 0), .val (.int 0), .val (.int 0), .val (.ref b1), .val (.ref b8), .val (.ref b15), .val (.ref w_PERMIT)] [(.int 0), (.int 0), (.ref b15), (.ref b8), (.ref w_PERMIT)])) _
  refine XS.iadd X1.here hx rfl (hb hby at_239) rfl ?_
  show Steps p.tables e below (T1.setTop (mkF m 240 #[.val (.int p1), .val (.int p2), .val (.int p3), .val (.int 0), .val (.int 0), .val (.int 0), .val (.ref b1), .val (.ref b8), .val (.ref b15), .val (.ref w_PERMIT)] [(.int ((0 : Int32) + (0 : Int32))), (.ref b15), (.ref b8), (.ref w_PERMIT)])) _
  rw [(by decide : ((0 : Int32) + (0 : Int32)) = (0 : Int32))]
  show Steps p.tables e below (T1.setTop (mkF m 240 #[.val (.int p1), .val (.int p2), .val (.int p3), .val (.int 0), .val (.int 0), .val (.int 0), .val (.ref b1), .val (.ref b8), .val (.ref b15), .val (.ref w_PERMIT)] [(.int 0), (.ref b15), (.ref b8), (.ref w_PERMIT)])) _
  refine XS.iload X1.here hx rfl (hb hby at_240) rfl ?_
  show Steps p.tables e below (T1.setTop (mkF m 242 #[.val (.int p1), .val (.int p2), .val (.int p3), .val (.int 0), .val (.int 0), .val (.int 0), .val (.ref b1), .val (.ref b8), .val (.ref b15), .val (.ref w_PERMIT)] [(.int 0), (.int 0), (.ref b15), (.ref b8), (.ref w_PERMIT)])) _
  refine XS.iadd X1.here hx rfl (hb hby at_242) rfl ?_
  show Steps p.tables e below (T1.setTop (mkF m 243 #[.val (.int p1), .val (.int p2), .val (.int p3), .val (.int 0), .val (.int 0), .val (.int 0), .val (.ref b1), .val (.ref b8), .val (.ref b15), .val (.ref w_PERMIT)] [(.int ((0 : Int32) + (0 : Int32))), (.ref b15), (.ref b8), (.ref w_PERMIT)])) _
  rw [(by decide : ((0 : Int32) + (0 : Int32)) = (0 : Int32))]
  show Steps p.tables e below (T1.setTop (mkF m 243 #[.val (.int p1), .val (.int p2), .val (.int p3), .val (.int 0), .val (.int 0), .val (.int 0), .val (.ref b1), .val (.ref b8), .val (.ref b15), .val (.ref w_PERMIT)] [(.int 0), (.ref b15), (.ref b8), (.ref w_PERMIT)])) _
  refine own_ldI X1 hx hZ e1 V_b15 (j := (0 : Int32)) ⟨by decide, by decide⟩ rfl (g := (mkF m 243 #[.val (.int p1), .val (.int p2), .val (.int p3), .val (.int 0), .val (.int 0), .val (.int 0), .val (.ref b1), .val (.ref b8), .val (.ref b15), .val (.ref w_PERMIT)] [(.int 0), (.ref b15), (.ref b8), (.ref w_PERMIT)])) rfl rfl (hb hby at_243) _ ?_
  show Steps p.tables e below (T1.setTop (mkF m 244 #[.val (.int p1), .val (.int p2), .val (.int p3), .val (.int 0), .val (.int 0), .val (.int 0), .val (.ref b1), .val (.ref b8), .val (.ref b15), .val (.ref w_PERMIT)] [(.int 0), (.ref b8), (.ref w_PERMIT)])) _
  refine own_ldR X1 hx hZ e1 V_b8 (j := (0 : Int32)) ⟨by decide, by decide⟩ rfl (g := (mkF m 244 #[.val (.int p1), .val (.int p2), .val (.int p3), .val (.int 0), .val (.int 0), .val (.int 0), .val (.ref b1), .val (.ref b8), .val (.ref b15), .val (.ref w_PERMIT)] [(.int 0), (.ref b8), (.ref w_PERMIT)])) rfl rfl (hb hby at_244) _ ?_
  show Steps p.tables e below (T1.setTop (mkF m 245 #[.val (.int p1), .val (.int p2), .val (.int p3), .val (.int 0), .val (.int 0), .val (.int 0), .val (.ref b1), .val (.ref b8), .val (.ref b15), .val (.ref w_PERMIT)] [(.ref w_PERMIT), (.ref w_PERMIT)])) _
  refine Jvm.RoadKit.acmp (g := (mkF m 245 #[.val (.int p1), .val (.int p2), .val (.int p3), .val (.int 0), .val (.int 0), .val (.int 0), .val (.ref b1), .val (.ref b8), .val (.ref b15), .val (.ref w_PERMIT)] [(.ref w_PERMIT), (.ref w_PERMIT)])) X1 hx rfl rfl rfl (pc0 := 245) (pc' := 248) (same := true) rfl (hb hby at_245) rfl (decide_eq_true rfl) (by decide) (by decide) ?_
  show Steps p.tables e below (T1.setTop (mkF m 248 #[.val (.int p1), .val (.int p2), .val (.int p3), .val (.int 0), .val (.int 0), .val (.int 0), .val (.ref b1), .val (.ref b8), .val (.ref b15), .val (.ref w_PERMIT)] [])) _
  refine XS.iconst X1.here hx rfl (hb hby at_248) ?_
  show Steps p.tables e below (T1.setTop (mkF m 249 #[.val (.int p1), .val (.int p2), .val (.int p3), .val (.int 0), .val (.int 0), .val (.int 0), .val (.ref b1), .val (.ref b8), .val (.ref b15), .val (.ref w_PERMIT)] [(.int 1)])) _
  refine XS.goto X1.here hx rfl (pc0 := 249) (pc' := 253) rfl (hb hby at_249) (by decide) (by decide) ?_
  show Steps p.tables e below (T1.setTop (mkF m 253 #[.val (.int p1), .val (.int p2), .val (.int p3), .val (.int 0), .val (.int 0), .val (.int 0), .val (.ref b1), .val (.ref b8), .val (.ref b15), .val (.ref w_PERMIT)] [(.int 1)])) _
  exact kt
def Q1_w_CHILD_OVERRIDES_w_PERMIT_w_DENY (Z : State) (w_CHILD_OVERRIDES : Addr) (w_PERMIT : Addr) (w_DENY : Addr) (w_INDETERMINATE : Addr) (h0 : Heap) (n0 : Nat) (v : Option Value) (h : Heap) (L : List Loc) : Prop := v = some (.ref w_DENY) ∧ Fr n0 L ∧ h = h0
set_option maxRecDepth 65536 in
set_option maxHeartbeats 40000000 in
theorem rm1_w_CHILD_OVERRIDES_w_PERMIT_w_DENY (l : Launch) (Z : State) (a0 : Array Value) (hw : ∀ d ∈ tables_1, d.before a0 Z = true) (ws : List Jvm.Cond) (w_CHILD_OVERRIDES : Addr) (w_PERMIT : Addr) (w_DENY : Addr) (w_INDETERMINATE : Addr) (h0 : Heap) (n0 : Nat) (Z0 : n0 ≤ h0.size) (F_ordinal_w_CHILD_OVERRIDES : Fld Z h0 w_CHILD_OVERRIDES "java/lang/Enum" "ordinal" "I" (.int 0)) (E_w_CHILD_OVERRIDES : Exa Z h0 w_CHILD_OVERRIDES "com/example/tributary/tributary/AccessList$InheritanceType") (S_INDETERMINATE : Sta Z h0 "com/example/tributary/tributary/AccessList$Decision" "INDETERMINATE" "Lcom/example/tributary/tributary/AccessList$Decision;" (.ref w_INDETERMINATE)) (n_w_DENY_w_INDETERMINATE : ¬ (w_DENY = w_INDETERMINATE)) :
    MetFree l (⟨"com/example/tributary/tributary/AccessList$InheritanceType", "combine", "(Lcom/example/tributary/tributary/AccessList$Decision;Lcom/example/tributary/tributary/AccessList$Decision;)Lcom/example/tributary/tributary/AccessList$Decision;"⟩ : MethodName) (head1 (Jvm.Cond.code (⟨"com/example/tributary/tributary/AccessList$InheritanceType", "combine", "(Lcom/example/tributary/tributary/AccessList$Decision;Lcom/example/tributary/tributary/AccessList$Decision;)Lcom/example/tributary/tributary/AccessList$Decision;"⟩ : MethodName) prog_6_method_4_code 3 (some (.object "com/example/tributary/tributary/AccessList$Decision")) :: ws) ({ frames := 1, cells := 0, slots := 0, locals := 12 } : Room)) (fun a U => a = #[(.ref w_CHILD_OVERRIDES), (.ref w_PERMIT), (.ref w_DENY)] ∧ Z.Warmed39 U.vm ∧ U.heap = h0) (fun _ _ _ _ _ => True) (fun _ U o U' => ∃ v L, o = .returned v ∧ Q1_w_CHILD_OVERRIDES_w_PERMIT_w_DENY Z w_CHILD_OVERRIDES w_PERMIT w_DENY w_INDETERMINATE h0 n0 v U'.heap L ∧ FrameEnd U o U' L ({ frames := 1, cells := 0, slots := 0, locals := 12 } : Room).cells ({ frames := 1, cells := 0, slots := 0, locals := 12 } : Room).slots) := by
  refine MetFree.of_bodySF (plainFor_of_name pn_1) hisR ?_
  intro p e s m args below meth c s₁ Bd hml0 hP hK
  obtain ⟨rfl, hZ, hh⟩ := hP
  have hx := Bd.exec
  have hby := Bd.bytes
  have hml : c.maxLocals = 3 := hml0
  have hown : s.vm.findClass "com/example/tributary/tributary/AccessList$InheritanceType" = some m.cls := findClass_of_methodNamed Bd.named
  have hnm := (name_of_methodNamed Bd.named Bd.method).1
  have X0 : Stand p l e ({ frames := 1, cells := 0, slots := 0, locals := 12 } : Room) s m #[(.ref w_CHILD_OVERRIDES), (.ref w_PERMIT), (.ref w_DENY)] below meth c s₁ [] 0 0 := Stand.of_body Bd
  have e0 : s₁.heap = h0 := by rw [← hh, Bd.state]; rfl
  have N0 := Fr.nil n0
  have pre0 : ∀ t, Steps p.tables e below (s₁.setTop (mkF m 0 #[.val (.ref w_CHILD_OVERRIDES), .val (.ref w_PERMIT), .val (.ref w_DENY)] [])) t → Steps p.tables e below (s₁.setTop (entryFrame m #[(.ref w_CHILD_OVERRIDES), (.ref w_PERMIT), (.ref w_DENY)] 3)) t := fun t k => castTop (by first | (simp [entryFrame, mkF, argsToLocals, Value.category]; done) | rfl) k
  obtain ⟨cq1, kq1, q1a, q1b, q1c⟩ := isOf hZ e0 E_w_CHILD_OVERRIDES
  obtain ⟨_, _, ⟨T1, L1, k1, n1⟩, -, X1, ⟨Lc1, hQ1, l1, y1, z1⟩, st1⟩ := X0.virtualBackUp hx (x := (⟨"com/example/tributary/tributary/AccessList$InheritanceType", "ordinal", "()I"⟩ : MethodName)) (y := (⟨"java/lang/Enum", "ordinal", "()I"⟩ : MethodName)) (owner := "java/lang/Enum") hown (mvT hZ (hw _ (List.mem_of_getElem? (i := 27) rfl))) (mvT hZ (hw _ (List.mem_of_getElem? (i := 28) rfl))) (mvT hZ (hw _ (List.mem_of_getElem? (i := 29) rfl))) (by decide) (mvT hZ (hw _ (List.mem_of_getElem? (i := 31) rfl))) (mvT hZ (hw _ (List.mem_of_getElem? (i := 30) rfl))) (backOf (W := 0) (rm2_w_CHILD_OVERRIDES l Z a0 hw [] w_CHILD_OVERRIDES h0 n0 Z0 F_ordinal_w_CHILD_OVERRIDES) hZ (hw _ (List.mem_of_getElem? (i := 33) rfl)) (hw _ (List.mem_of_getElem? (i := 32) rfl)) (by decide) (by decide)) q1a q1c (g := (mkF m 1 #[.val (.ref w_CHILD_OVERRIDES), .val (.ref w_PERMIT), .val (.ref w_DENY)] [(.ref w_CHILD_OVERRIDES)])) rfl (by rw [hml]; rfl) (Steps.refl _) (argsL := []) (rest := []) (lenOf pd___I rfl) rfl (by show 2 * 0 + _ ≤ _; exact Nat.le_of_eq rfl) (hb hby d1_1) (fun _ _ => ⟨rfl, e0, (by decide : 0 + 0 ≤ _), (by decide : 0 + 0 ≤ _)⟩)
  dsimp only [Pt.U, Pt.locs, Pt.cells, Pt.slots] at X1 l1 y1 z1 st1 hQ1
  subst l1 y1 z1
  obtain ⟨rfl, N1q, e1⟩ := hQ1
  have N1 := Fr.app N0 N1q
  obtain ⟨T2, X2, e2, st2⟩ := getS2 X1 hx hZ hown (host := "") (Or.inl (hw _ (List.mem_of_getElem? (i := 36) rfl))) Via.refl e1 S_INDETERMINATE (g := (mkF m 47 #[.val (.ref w_CHILD_OVERRIDES), .val (.ref w_PERMIT), .val (.ref w_DENY)] [(.ref w_DENY)])) rfl (hb hby d1_47)
  obtain ⟨fs, hr, hrun, hended, hW, hsame⟩ := X2.leave (v := some (.ref w_DENY)) (fun h => by rw [Bd.returns] at h; cases h)
  refine ⟨_, _, pre0 _ ?_, hrun, hended, _, _, rfl, ?_, ⟨_, rfl⟩, hW, hsame.mono (by decide) (by decide)⟩
  · show Steps p.tables e below (s₁.setTop (mkF m 0 #[.val (.ref w_CHILD_OVERRIDES), .val (.ref w_PERMIT), .val (.ref w_DENY)] [])) _
    refine XS.aloadN X0.here hx rfl (hb hby d1_0) rfl rfl ?_
    show Steps p.tables e below (s₁.setTop (mkF m 1 #[.val (.ref w_CHILD_OVERRIDES), .val (.ref w_PERMIT), .val (.ref w_DENY)] [(.ref w_CHILD_OVERRIDES)])) _
    refine st1.trans ?_
    show Steps p.tables e below (T1.setTop (mkF m 4 #[.val (.ref w_CHILD_OVERRIDES), .val (.ref w_PERMIT), .val (.ref w_DENY)] [(.int 0)])) _
    refine XS.tswIn X1.here hx rfl (pc0 := 4) (pc' := 46) rfl (hb hby d1_4) rfl (by decide) (o := 42) (by decide) (by decide) (by decide) ?_
    show Steps p.tables e below (T1.setTop (mkF m 46 #[.val (.ref w_CHILD_OVERRIDES), .val (.ref w_PERMIT), .val (.ref w_DENY)] [])) _
    refine XS.aloadN X1.here hx rfl (hb hby d1_46) rfl rfl ?_
    show Steps p.tables e below (T1.setTop (mkF m 47 #[.val (.ref w_CHILD_OVERRIDES), .val (.ref w_PERMIT), .val (.ref w_DENY)] [(.ref w_DENY)])) _
    refine st2 _ ?_
    show Steps p.tables e below (T2.setTop (mkF m 50 #[.val (.ref w_CHILD_OVERRIDES), .val (.ref w_PERMIT), .val (.ref w_DENY)] [(.ref w_INDETERMINATE), (.ref w_DENY)])) _
    refine Jvm.RoadKit.acmp (g := (mkF m 50 #[.val (.ref w_CHILD_OVERRIDES), .val (.ref w_PERMIT), .val (.ref w_DENY)] [(.ref w_INDETERMINATE), (.ref w_DENY)])) X2 hx rfl rfl rfl (pc0 := 50) (pc' := 57) (same := false) rfl (hb hby d1_50) rfl (decide_eq_false fun q => n_w_DENY_w_INDETERMINATE (Value.ref.inj q)) (by decide) (by decide) ?_
    show Steps p.tables e below (T2.setTop (mkF m 57 #[.val (.ref w_CHILD_OVERRIDES), .val (.ref w_PERMIT), .val (.ref w_DENY)] [])) _
    refine XS.aloadN X2.here hx rfl (hb hby d1_57) rfl rfl ?_
    show Steps p.tables e below (T2.setTop (mkF m 58 #[.val (.ref w_CHILD_OVERRIDES), .val (.ref w_PERMIT), .val (.ref w_DENY)] [(.ref w_DENY)])) _
    refine XS.goto X2.here hx rfl (pc0 := 58) (pc' := 112) rfl (hb hby d1_58) (by decide) (by decide) ?_
    show Steps p.tables e below (T2.setTop (mkF m 112 #[.val (.ref w_CHILD_OVERRIDES), .val (.ref w_PERMIT), .val (.ref w_DENY)] [(.ref w_DENY)])) _
    jvm_step X2.here [X2.here.top, hx, (hb hby d1_112), X2.method', Bd.returns, Value.isRef, FieldType.isReference]
    first | (intro acts; rw [hr _ acts rfl rfl rfl]) | rw [hr _ _ rfl rfl rfl]
    exact Steps.refl _
  · show Q1_w_CHILD_OVERRIDES_w_PERMIT_w_DENY Z w_CHILD_OVERRIDES w_PERMIT w_DENY w_INDETERMINATE h0 n0 _ T2.heap _
    rw [e2]
    exact ⟨rfl, N1, rfl⟩
set_option maxRecDepth 65536 in
set_option maxHeartbeats 40000000 in
theorem pc0_k001 {p : Program} {l : Launch} {e : Env} {s : State} {m : MethodId} {args : Array Value} {below : List Frame} {meth : Method} {c : Code} {T0 : State} {locs : List Loc} {Z : State} {a0 : Array Value} {h0 : Heap} {n0 : Nat} (p1 : Int32) (p2 : Int32) (p3 : Int32) (b1 : Addr) (b8 : Addr) (b15 : Addr) (k1 : ClassId) (w_CHILD_OVERRIDES : Addr) (w_PARENT_OVERRIDES : Addr) (w_AND_BOTH_PERMIT : Addr) (k8 : ClassId) (w_PERMIT : Addr) (w_DENY : Addr) (w_INDETERMINATE : Addr) (k15 : ClassId)
    (X0 : Stand p l e room_1 s m args below meth c T0 locs 3 33) (hx : p.tables.exec = Jvm.exec) (hZ : Z.Warmed39 s.vm) (hw : ∀ d ∈ tables_1, d.before a0 Z = true) (hby : c.code = code) (hml : c.maxLocals = 10) (hown : s.vm.findClass "com/example/tributary/tributary/InheritanceTypeCombinePinLaw" = some m.cls) (e0 : T0.heap = h0) (Z0 : n0 ≤ h0.size) (N0 : Fr n0 locs) (V_b1 : Arv Z h0 b1 k1 (.object "com/example/tributary/tributary/AccessList$InheritanceType") (3 : Int32) [(.ref w_CHILD_OVERRIDES), (.ref w_PARENT_OVERRIDES), (.ref w_AND_BOTH_PERMIT)] .null) (V_b8 : Arv Z h0 b8 k8 (.object "com/example/tributary/tributary/AccessList$Decision") (3 : Int32) [(.ref w_PERMIT), (.ref w_DENY), (.ref w_INDETERMINATE)] .null) (F_ordinal_w_CHILD_OVERRIDES : Fld Z h0 w_CHILD_OVERRIDES "java/lang/Enum" "ordinal" "I" (.int 0)) (E_w_CHILD_OVERRIDES : Exa Z h0 w_CHILD_OVERRIDES "com/example/tributary/tributary/AccessList$InheritanceType") (S_INDETERMINATE : Sta Z h0 "com/example/tributary/tributary/AccessList$Decision" "INDETERMINATE" "Lcom/example/tributary/tributary/AccessList$Decision;" (.ref w_INDETERMINATE)) (n_w_DENY_w_INDETERMINATE : ¬ (w_DENY = w_INDETERMINATE)) (V_b15 : Arv Z h0 b15 k15 .int (27 : Int32) [(.int 0), (.int 1), (.int 0), (.int 0), (.int 1), (.int 1), (.int 0), (.int 1), (.int 2), (.int 0), (.int 0), (.int 0), (.int 1), (.int 1), (.int 1), (.int 0), (.int 1), (.int 2), (.int 0), (.int 1), (.int 1), (.int 1), (.int 1), (.int 1), (.int 1), (.int 1), (.int 1)] (.int (0 : Int32))) :
    ∃ (T' : State) (L' : List Loc) (Ls : Array Slot), Stand p l e room_1 s m args below meth c T' L' 3 33 ∧ Fr n0 L' ∧ ∀ target, Steps p.tables e below (T'.setTop (mkF m 253 Ls [(.int 1)])) target → Steps p.tables e below (T0.setTop (mkF m 206 #[.val (.int p1), .val (.int p2), .val (.int p3), .val (.int 0), .val (.int 0), .val (.int 1), .val (.ref b1), .val (.ref b8), .val (.ref b15), .unset] [])) target := by
  obtain ⟨cq1, kq1, q1a, q1b, q1c⟩ := isOf hZ e0 E_w_CHILD_OVERRIDES
  obtain ⟨_, _, ⟨T1, L1, k1, n1⟩, -, X1, ⟨Lc1, hQ1, l1, y1, z1⟩, st1⟩ := X0.virtualBack hx (y := (⟨"com/example/tributary/tributary/AccessList$InheritanceType", "combine", "(Lcom/example/tributary/tributary/AccessList$Decision;Lcom/example/tributary/tributary/AccessList$Decision;)Lcom/example/tributary/tributary/AccessList$Decision;"⟩ : MethodName)) (z := (⟨"com/example/tributary/tributary/AccessList$InheritanceType", "combine", "(Lcom/example/tributary/tributary/AccessList$Decision;Lcom/example/tributary/tributary/AccessList$Decision;)Lcom/example/tributary/tributary/AccessList$Decision;"⟩ : MethodName)) hown (mvT hZ (hw _ (List.mem_of_getElem? (i := 22) rfl))) (mvT hZ (hw _ (List.mem_of_getElem? (i := 23) rfl))) (notFace_of_selects (args := #[]) (mvT hZ (hw _ (List.mem_of_getElem? (i := 25) rfl)))) (mvT hZ (hw _ (List.mem_of_getElem? (i := 25) rfl))) (mvT hZ (hw _ (List.mem_of_getElem? (i := 24) rfl))) (by decide) (backOf (W := 0) (rm1_w_CHILD_OVERRIDES_w_PERMIT_w_DENY l Z a0 hw [] w_CHILD_OVERRIDES w_PERMIT w_DENY w_INDETERMINATE h0 n0 Z0 F_ordinal_w_CHILD_OVERRIDES E_w_CHILD_OVERRIDES S_INDETERMINATE n_w_DENY_w_INDETERMINATE) hZ (hw _ (List.mem_of_getElem? (i := 26) rfl)) (hw _ (List.mem_of_getElem? (i := 4) rfl)) (by decide) (by decide)) q1a q1c (g := (mkF m 220 #[.val (.int p1), .val (.int p2), .val (.int p3), .val (.int 0), .val (.int 0), .val (.int 1), .val (.ref b1), .val (.ref b8), .val (.ref b15), .unset] [(.ref w_DENY), (.ref w_PERMIT), (.ref w_CHILD_OVERRIDES)])) rfl (by rw [hml]; rfl) (Steps.refl _) (argsL := [(.ref w_PERMIT), (.ref w_DENY)]) (rest := []) (lenOf pd__Lcom_example_tributary_tributary_AccessList_Decision_Lcom_example_tributary_tributary_AccessList_Decision__Lcom_example_tributary_tributary_AccessList_Decision_ rfl) rfl (by show 2 * 0 + _ ≤ _; exact Nat.le_of_eq rfl) (hb hby at_220) (fun _ _ => ⟨rfl, e0, (by decide : 3 + 0 ≤ _), (by decide : 33 + 0 ≤ _)⟩)
  dsimp only [Pt.U, Pt.locs, Pt.cells, Pt.slots] at X1 l1 y1 z1 st1 hQ1
  subst l1 y1 z1
  obtain ⟨rfl, N1q, e1⟩ := hQ1
  have N1 := Fr.app N0 N1q
  refine ⟨T1, _, #[.val (.int p1), .val (.int p2), .val (.int p3), .val (.int 0), .val (.int 0), .val (.int 1), .val (.ref b1), .val (.ref b8), .val (.ref b15), .val (.ref w_DENY)], X1, N1, fun target kt => ?_⟩
  show Steps p.tables e below (T0.setTop (mkF m 206 #[.val (.int p1), .val (.int p2), .val (.int p3), .val (.int 0), .val (.int 0), .val (.int 1), .val (.ref b1), .val (.ref b8), .val (.ref b15), .unset] [])) _
  refine XS.aload X0.here hx rfl (hb hby at_206) rfl rfl ?_
  show Steps p.tables e below (T0.setTop (mkF m 208 #[.val (.int p1), .val (.int p2), .val (.int p3), .val (.int 0), .val (.int 0), .val (.int 1), .val (.ref b1), .val (.ref b8), .val (.ref b15), .unset] [(.ref b1)])) _
  refine XS.iloadN X0.here hx rfl (hb hby at_208) rfl ?_
  show Steps p.tables e below (T0.setTop (mkF m 209 #[.val (.int p1), .val (.int p2), .val (.int p3), .val (.int 0), .val (.int 0), .val (.int 1), .val (.ref b1), .val (.ref b8), .val (.ref b15), .unset] [(.int 0), (.ref b1)])) _
  refine own_ldR X0 hx hZ e0 V_b1 (j := (0 : Int32)) ⟨by decide, by decide⟩ rfl (g := (mkF m 209 #[.val (.int p1), .val (.int p2), .val (.int p3), .val (.int 0), .val (.int 0), .val (.int 1), .val (.ref b1), .val (.ref b8), .val (.ref b15), .unset] [(.int 0), (.ref b1)])) rfl rfl (hb hby at_209) _ ?_
  show Steps p.tables e below (T0.setTop (mkF m 210 #[.val (.int p1), .val (.int p2), .val (.int p3), .val (.int 0), .val (.int 0), .val (.int 1), .val (.ref b1), .val (.ref b8), .val (.ref b15), .unset] [(.ref w_CHILD_OVERRIDES)])) _
  refine XS.aload X0.here hx rfl (hb hby at_210) rfl rfl ?_
  show Steps p.tables e below (T0.setTop (mkF m 212 #[.val (.int p1), .val (.int p2), .val (.int p3), .val (.int 0), .val (.int 0), .val (.int 1), .val (.ref b1), .val (.ref b8), .val (.ref b15), .unset] [(.ref b8), (.ref w_CHILD_OVERRIDES)])) _
  refine XS.iload X0.here hx rfl (hb hby at_212) rfl ?_
  show Steps p.tables e below (T0.setTop (mkF m 214 #[.val (.int p1), .val (.int p2), .val (.int p3), .val (.int 0), .val (.int 0), .val (.int 1), .val (.ref b1), .val (.ref b8), .val (.ref b15), .unset] [(.int 0), (.ref b8), (.ref w_CHILD_OVERRIDES)])) _
  refine own_ldR X0 hx hZ e0 V_b8 (j := (0 : Int32)) ⟨by decide, by decide⟩ rfl (g := (mkF m 214 #[.val (.int p1), .val (.int p2), .val (.int p3), .val (.int 0), .val (.int 0), .val (.int 1), .val (.ref b1), .val (.ref b8), .val (.ref b15), .unset] [(.int 0), (.ref b8), (.ref w_CHILD_OVERRIDES)])) rfl rfl (hb hby at_214) _ ?_
  show Steps p.tables e below (T0.setTop (mkF m 215 #[.val (.int p1), .val (.int p2), .val (.int p3), .val (.int 0), .val (.int 0), .val (.int 1), .val (.ref b1), .val (.ref b8), .val (.ref b15), .unset] [(.ref w_PERMIT), (.ref w_CHILD_OVERRIDES)])) _
  refine XS.aload X0.here hx rfl (hb hby at_215) rfl rfl ?_
  show Steps p.tables e below (T0.setTop (mkF m 217 #[.val (.int p1), .val (.int p2), .val (.int p3), .val (.int 0), .val (.int 0), .val (.int 1), .val (.ref b1), .val (.ref b8), .val (.ref b15), .unset] [(.ref b8), (.ref w_PERMIT), (.ref w_CHILD_OVERRIDES)])) _
  refine XS.iload X0.here hx rfl (hb hby at_217) rfl ?_
  show Steps p.tables e below (T0.setTop (mkF m 219 #[.val (.int p1), .val (.int p2), .val (.int p3), .val (.int 0), .val (.int 0), .val (.int 1), .val (.ref b1), .val (.ref b8), .val (.ref b15), .unset] [(.int 1), (.ref b8), (.ref w_PERMIT), (.ref w_CHILD_OVERRIDES)])) _
  refine own_ldR X0 hx hZ e0 V_b8 (j := (1 : Int32)) ⟨by decide, by decide⟩ rfl (g := (mkF m 219 #[.val (.int p1), .val (.int p2), .val (.int p3), .val (.int 0), .val (.int 0), .val (.int 1), .val (.ref b1), .val (.ref b8), .val (.ref b15), .unset] [(.int 1), (.ref b8), (.ref w_PERMIT), (.ref w_CHILD_OVERRIDES)])) rfl rfl (hb hby at_219) _ ?_
  show Steps p.tables e below (T0.setTop (mkF m 220 #[.val (.int p1), .val (.int p2), .val (.int p3), .val (.int 0), .val (.int 0), .val (.int 1), .val (.ref b1), .val (.ref b8), .val (.ref b15), .unset] [(.ref w_DENY), (.ref w_PERMIT), (.ref w_CHILD_OVERRIDES)])) _
  refine st1.trans ?_
  show Steps p.tables e below (T1.setTop (mkF m 223 #[.val (.int p1), .val (.int p2), .val (.int p3), .val (.int 0), .val (.int 0), .val (.int 1), .val (.ref b1), .val (.ref b8), .val (.ref b15), .unset] [(.ref w_DENY)])) _
  refine XS.astore X1.here hx rfl (hb hby at_223) rfl rfl (l' := #[.val (.int p1), .val (.int p2), .val (.int p3), .val (.int 0), .val (.int 0), .val (.int 1), .val (.ref b1), .val (.ref b8), .val (.ref b15), .val (.ref w_DENY)]) rfl ?_
  show Steps p.tables e below (T1.setTop (mkF m 225 #[.val (.int p1), .val (.int p2), .val (.int p3), .val (.int 0), .val (.int 0), .val (.int 1), .val (.ref b1), .val (.ref b8), .val (.ref b15), .val (.ref w_DENY)] [])) _
  refine XS.aload X1.here hx rfl (hb hby at_225) rfl rfl ?_
  show Steps p.tables e below (T1.setTop (mkF m 227 #[.val (.int p1), .val (.int p2), .val (.int p3), .val (.int 0), .val (.int 0), .val (.int 1), .val (.ref b1), .val (.ref b8), .val (.ref b15), .val (.ref w_DENY)] [(.ref w_DENY)])) _
  refine XS.aload X1.here hx rfl (hb hby at_227) rfl rfl ?_
  show Steps p.tables e below (T1.setTop (mkF m 229 #[.val (.int p1), .val (.int p2), .val (.int p3), .val (.int 0), .val (.int 0), .val (.int 1), .val (.ref b1), .val (.ref b8), .val (.ref b15), .val (.ref w_DENY)] [(.ref b8), (.ref w_DENY)])) _
  refine XS.aload X1.here hx rfl (hb hby at_229) rfl rfl ?_
  show Steps p.tables e below (T1.setTop (mkF m 231 #[.val (.int p1), .val (.int p2), .val (.int p3), .val (.int 0), .val (.int 0), .val (.int 1), .val (.ref b1), .val (.ref b8), .val (.ref b15), .val (.ref w_DENY)] [(.ref b15), (.ref b8), (.ref w_DENY)])) _
  refine XS.iloadN X1.here hx rfl (hb hby at_231) rfl ?_
  show Steps p.tables e below (T1.setTop (mkF m 232 #[.val (.int p1), .val (.int p2), .val (.int p3), .val (.int 0), .val (.int 0), .val (.int 1), .val (.ref b1), .val (.ref b8), .val (.ref b15), .val (.ref w_DENY)] [(.int 0), (.ref b15), (.ref b8), (.ref w_DENY)])) _
  refine XS.bipush X1.here hx rfl (hb hby at_232) ?_
  show Steps p.tables e below (T1.setTop (mkF m 234 #[.val (.int p1), .val (.int p2), .val (.int p3), .val (.int 0), .val (.int 0), .val (.int 1), .val (.ref b1), .val (.ref b8), .val (.ref b15), .val (.ref w_DENY)] [(.int 9), (.int 0), (.ref b15), (.ref b8), (.ref w_DENY)])) _
  refine XS.imul X1.here hx rfl (hb hby at_234) rfl ?_
  show Steps p.tables e below (T1.setTop (mkF m 235 #[.val (.int p1), .val (.int p2), .val (.int p3), .val (.int 0), .val (.int 0), .val (.int 1), .val (.ref b1), .val (.ref b8), .val (.ref b15), .val (.ref w_DENY)] [(.int ((0 : Int32) * (9 : Int32))), (.ref b15), (.ref b8), (.ref w_DENY)])) _
  rw [(by decide : ((0 : Int32) * (9 : Int32)) = (0 : Int32))]
  show Steps p.tables e below (T1.setTop (mkF m 235 #[.val (.int p1), .val (.int p2), .val (.int p3), .val (.int 0), .val (.int 0), .val (.int 1), .val (.ref b1), .val (.ref b8), .val (.ref b15), .val (.ref w_DENY)] [(.int 0), (.ref b15), (.ref b8), (.ref w_DENY)])) _
  refine XS.iload X1.here hx rfl (hb hby at_235) rfl ?_
  show Steps p.tables e below (T1.setTop (mkF m 237 #[.val (.int p1), .val (.int p2), .val (.int p3), .val (.int 0), .val (.int 0), .val (.int 1), .val (.ref b1), .val (.ref b8), .val (.ref b15), .val (.ref w_DENY)] [(.int 0), (.int 0), (.ref b15), (.ref b8), (.ref w_DENY)])) _
  refine XS.iconst X1.here hx rfl (hb hby at_237) ?_
  show Steps p.tables e below (T1.setTop (mkF m 238 #[.val (.int p1), .val (.int p2), .val (.int p3), .val (.int 0), .val (.int 0), .val (.int 1), .val (.ref b1), .val (.ref b8), .val (.ref b15), .val (.ref w_DENY)] [(.int 3), (.int 0), (.int 0), (.ref b15), (.ref b8), (.ref w_DENY)])) _
  refine XS.imul X1.here hx rfl (hb hby at_238) rfl ?_
  show Steps p.tables e below (T1.setTop (mkF m 239 #[.val (.int p1), .val (.int p2), .val (.int p3), .val (.int 0), .val (.int 0), .val (.int 1), .val (.ref b1), .val (.ref b8), .val (.ref b15), .val (.ref w_DENY)] [(.int ((0 : Int32) * (3 : Int32))), (.int 0), (.ref b15), (.ref b8), (.ref w_DENY)])) _
  rw [(by decide : ((0 : Int32) * (3 : Int32)) = (0 : Int32))]
  show Steps p.tables e below (T1.setTop (mkF m 239 #[.val (.int p1), .val (.int p2), .val (.int p3), .val (.int 0), .val (.int 0), .val (.int 1), .val (.ref b1), .val (.ref b8), .val (.ref b15), .val (.ref w_DENY)] [(.int 0), (.int 0), (.ref b15), (.ref b8), (.ref w_DENY)])) _
  refine XS.iadd X1.here hx rfl (hb hby at_239) rfl ?_
  show Steps p.tables e below (T1.setTop (mkF m 240 #[.val (.int p1), .val (.int p2), .val (.int p3), .val (.int 0), .val (.int 0), .val (.int 1), .val (.ref b1), .val (.ref b8), .val (.ref b15), .val (.ref w_DENY)] [(.int ((0 : Int32) + (0 : Int32))), (.ref b15), (.ref b8), (.ref w_DENY)])) _
  rw [(by decide : ((0 : Int32) + (0 : Int32)) = (0 : Int32))]
  show Steps p.tables e below (T1.setTop (mkF m 240 #[.val (.int p1), .val (.int p2), .val (.int p3), .val (.int 0), .val (.int 0), .val (.int 1), .val (.ref b1), .val (.ref b8), .val (.ref b15), .val (.ref w_DENY)] [(.int 0), (.ref b15), (.ref b8), (.ref w_DENY)])) _
  refine XS.iload X1.here hx rfl (hb hby at_240) rfl ?_
  show Steps p.tables e below (T1.setTop (mkF m 242 #[.val (.int p1), .val (.int p2), .val (.int p3), .val (.int 0), .val (.int 0), .val (.int 1), .val (.ref b1), .val (.ref b8), .val (.ref b15), .val (.ref w_DENY)] [(.int 1), (.int 0), (.ref b15), (.ref b8), (.ref w_DENY)])) _
  refine XS.iadd X1.here hx rfl (hb hby at_242) rfl ?_
  show Steps p.tables e below (T1.setTop (mkF m 243 #[.val (.int p1), .val (.int p2), .val (.int p3), .val (.int 0), .val (.int 0), .val (.int 1), .val (.ref b1), .val (.ref b8), .val (.ref b15), .val (.ref w_DENY)] [(.int ((0 : Int32) + (1 : Int32))), (.ref b15), (.ref b8), (.ref w_DENY)])) _
  rw [(by decide : ((0 : Int32) + (1 : Int32)) = (1 : Int32))]
  show Steps p.tables e below (T1.setTop (mkF m 243 #[.val (.int p1), .val (.int p2), .val (.int p3), .val (.int 0), .val (.int 0), .val (.int 1), .val (.ref b1), .val (.ref b8), .val (.ref b15), .val (.ref w_DENY)] [(.int 1), (.ref b15), (.ref b8), (.ref w_DENY)])) _
  refine own_ldI X1 hx hZ e1 V_b15 (j := (1 : Int32)) ⟨by decide, by decide⟩ rfl (g := (mkF m 243 #[.val (.int p1), .val (.int p2), .val (.int p3), .val (.int 0), .val (.int 0), .val (.int 1), .val (.ref b1), .val (.ref b8), .val (.ref b15), .val (.ref w_DENY)] [(.int 1), (.ref b15), (.ref b8), (.ref w_DENY)])) rfl rfl (hb hby at_243) _ ?_
  show Steps p.tables e below (T1.setTop (mkF m 244 #[.val (.int p1), .val (.int p2), .val (.int p3), .val (.int 0), .val (.int 0), .val (.int 1), .val (.ref b1), .val (.ref b8), .val (.ref b15), .val (.ref w_DENY)] [(.int 1), (.ref b8), (.ref w_DENY)])) _
  refine own_ldR X1 hx hZ e1 V_b8 (j := (1 : Int32)) ⟨by decide, by decide⟩ rfl (g := (mkF m 244 #[.val (.int p1), .val (.int p2), .val (.int p3), .val (.int 0), .val (.int 0), .val (.int 1), .val (.ref b1), .val (.ref b8), .val (.ref b15), .val (.ref w_DENY)] [(.int 1), (.ref b8), (.ref w_DENY)])) rfl rfl (hb hby at_244) _ ?_
  show Steps p.tables e below (T1.setTop (mkF m 245 #[.val (.int p1), .val (.int p2), .val (.int p3), .val (.int 0), .val (.int 0), .val (.int 1), .val (.ref b1), .val (.ref b8), .val (.ref b15), .val (.ref w_DENY)] [(.ref w_DENY), (.ref w_DENY)])) _
  refine Jvm.RoadKit.acmp (g := (mkF m 245 #[.val (.int p1), .val (.int p2), .val (.int p3), .val (.int 0), .val (.int 0), .val (.int 1), .val (.ref b1), .val (.ref b8), .val (.ref b15), .val (.ref w_DENY)] [(.ref w_DENY), (.ref w_DENY)])) X1 hx rfl rfl rfl (pc0 := 245) (pc' := 248) (same := true) rfl (hb hby at_245) rfl (decide_eq_true rfl) (by decide) (by decide) ?_
  show Steps p.tables e below (T1.setTop (mkF m 248 #[.val (.int p1), .val (.int p2), .val (.int p3), .val (.int 0), .val (.int 0), .val (.int 1), .val (.ref b1), .val (.ref b8), .val (.ref b15), .val (.ref w_DENY)] [])) _
  refine XS.iconst X1.here hx rfl (hb hby at_248) ?_
  show Steps p.tables e below (T1.setTop (mkF m 249 #[.val (.int p1), .val (.int p2), .val (.int p3), .val (.int 0), .val (.int 0), .val (.int 1), .val (.ref b1), .val (.ref b8), .val (.ref b15), .val (.ref w_DENY)] [(.int 1)])) _
  refine XS.goto X1.here hx rfl (pc0 := 249) (pc' := 253) rfl (hb hby at_249) (by decide) (by decide) ?_
  show Steps p.tables e below (T1.setTop (mkF m 253 #[.val (.int p1), .val (.int p2), .val (.int p3), .val (.int 0), .val (.int 0), .val (.int 1), .val (.ref b1), .val (.ref b8), .val (.ref b15), .val (.ref w_DENY)] [(.int 1)])) _
  exact kt
def Q1_w_CHILD_OVERRIDES_w_PERMIT_w_INDETERMINATE (Z : State) (w_CHILD_OVERRIDES : Addr) (w_PERMIT : Addr) (w_INDETERMINATE : Addr) (h0 : Heap) (n0 : Nat) (v : Option Value) (h : Heap) (L : List Loc) : Prop := v = some (.ref w_PERMIT) ∧ Fr n0 L ∧ h = h0
set_option maxRecDepth 65536 in
set_option maxHeartbeats 40000000 in
theorem rm1_w_CHILD_OVERRIDES_w_PERMIT_w_INDETERMINATE (l : Launch) (Z : State) (a0 : Array Value) (hw : ∀ d ∈ tables_1, d.before a0 Z = true) (ws : List Jvm.Cond) (w_CHILD_OVERRIDES : Addr) (w_PERMIT : Addr) (w_INDETERMINATE : Addr) (h0 : Heap) (n0 : Nat) (Z0 : n0 ≤ h0.size) (F_ordinal_w_CHILD_OVERRIDES : Fld Z h0 w_CHILD_OVERRIDES "java/lang/Enum" "ordinal" "I" (.int 0)) (E_w_CHILD_OVERRIDES : Exa Z h0 w_CHILD_OVERRIDES "com/example/tributary/tributary/AccessList$InheritanceType") (S_INDETERMINATE : Sta Z h0 "com/example/tributary/tributary/AccessList$Decision" "INDETERMINATE" "Lcom/example/tributary/tributary/AccessList$Decision;" (.ref w_INDETERMINATE)) :
    MetFree l (⟨"com/example/tributary/tributary/AccessList$InheritanceType", "combine", "(Lcom/example/tributary/tributary/AccessList$Decision;Lcom/example/tributary/tributary/AccessList$Decision;)Lcom/example/tributary/tributary/AccessList$Decision;"⟩ : MethodName) (head1 (Jvm.Cond.code (⟨"com/example/tributary/tributary/AccessList$InheritanceType", "combine", "(Lcom/example/tributary/tributary/AccessList$Decision;Lcom/example/tributary/tributary/AccessList$Decision;)Lcom/example/tributary/tributary/AccessList$Decision;"⟩ : MethodName) prog_6_method_4_code 3 (some (.object "com/example/tributary/tributary/AccessList$Decision")) :: ws) ({ frames := 1, cells := 0, slots := 0, locals := 12 } : Room)) (fun a U => a = #[(.ref w_CHILD_OVERRIDES), (.ref w_PERMIT), (.ref w_INDETERMINATE)] ∧ Z.Warmed39 U.vm ∧ U.heap = h0) (fun _ _ _ _ _ => True) (fun _ U o U' => ∃ v L, o = .returned v ∧ Q1_w_CHILD_OVERRIDES_w_PERMIT_w_INDETERMINATE Z w_CHILD_OVERRIDES w_PERMIT w_INDETERMINATE h0 n0 v U'.heap L ∧ FrameEnd U o U' L ({ frames := 1, cells := 0, slots := 0, locals := 12 } : Room).cells ({ frames := 1, cells := 0, slots := 0, locals := 12 } : Room).slots) := by
  refine MetFree.of_bodySF (plainFor_of_name pn_1) hisR ?_
  intro p e s m args below meth c s₁ Bd hml0 hP hK
  obtain ⟨rfl, hZ, hh⟩ := hP
  have hx := Bd.exec
  have hby := Bd.bytes
  have hml : c.maxLocals = 3 := hml0
  have hown : s.vm.findClass "com/example/tributary/tributary/AccessList$InheritanceType" = some m.cls := findClass_of_methodNamed Bd.named
  have hnm := (name_of_methodNamed Bd.named Bd.method).1
  have X0 : Stand p l e ({ frames := 1, cells := 0, slots := 0, locals := 12 } : Room) s m #[(.ref w_CHILD_OVERRIDES), (.ref w_PERMIT), (.ref w_INDETERMINATE)] below meth c s₁ [] 0 0 := Stand.of_body Bd
  have e0 : s₁.heap = h0 := by rw [← hh, Bd.state]; rfl
  have N0 := Fr.nil n0
  have pre0 : ∀ t, Steps p.tables e below (s₁.setTop (mkF m 0 #[.val (.ref w_CHILD_OVERRIDES), .val (.ref w_PERMIT), .val (.ref w_INDETERMINATE)] [])) t → Steps p.tables e below (s₁.setTop (entryFrame m #[(.ref w_CHILD_OVERRIDES), (.ref w_PERMIT), (.ref w_INDETERMINATE)] 3)) t := fun t k => castTop (by first | (simp [entryFrame, mkF, argsToLocals, Value.category]; done) | rfl) k
  obtain ⟨cq1, kq1, q1a, q1b, q1c⟩ := isOf hZ e0 E_w_CHILD_OVERRIDES
  obtain ⟨_, _, ⟨T1, L1, k1, n1⟩, -, X1, ⟨Lc1, hQ1, l1, y1, z1⟩, st1⟩ := X0.virtualBackUp hx (x := (⟨"com/example/tributary/tributary/AccessList$InheritanceType", "ordinal", "()I"⟩ : MethodName)) (y := (⟨"java/lang/Enum", "ordinal", "()I"⟩ : MethodName)) (owner := "java/lang/Enum") hown (mvT hZ (hw _ (List.mem_of_getElem? (i := 27) rfl))) (mvT hZ (hw _ (List.mem_of_getElem? (i := 28) rfl))) (mvT hZ (hw _ (List.mem_of_getElem? (i := 29) rfl))) (by decide) (mvT hZ (hw _ (List.mem_of_getElem? (i := 31) rfl))) (mvT hZ (hw _ (List.mem_of_getElem? (i := 30) rfl))) (backOf (W := 0) (rm2_w_CHILD_OVERRIDES l Z a0 hw [] w_CHILD_OVERRIDES h0 n0 Z0 F_ordinal_w_CHILD_OVERRIDES) hZ (hw _ (List.mem_of_getElem? (i := 33) rfl)) (hw _ (List.mem_of_getElem? (i := 32) rfl)) (by decide) (by decide)) q1a q1c (g := (mkF m 1 #[.val (.ref w_CHILD_OVERRIDES), .val (.ref w_PERMIT), .val (.ref w_INDETERMINATE)] [(.ref w_CHILD_OVERRIDES)])) rfl (by rw [hml]; rfl) (Steps.refl _) (argsL := []) (rest := []) (lenOf pd___I rfl) rfl (by show 2 * 0 + _ ≤ _; exact Nat.le_of_eq rfl) (hb hby d1_1) (fun _ _ => ⟨rfl, e0, (by decide : 0 + 0 ≤ _), (by decide : 0 + 0 ≤ _)⟩)
  dsimp only [Pt.U, Pt.locs, Pt.cells, Pt.slots] at X1 l1 y1 z1 st1 hQ1
  subst l1 y1 z1
  obtain ⟨rfl, N1q, e1⟩ := hQ1
  have N1 := Fr.app N0 N1q
  obtain ⟨T2, X2, e2, st2⟩ := getS2 X1 hx hZ hown (host := "") (Or.inl (hw _ (List.mem_of_getElem? (i := 36) rfl))) Via.refl e1 S_INDETERMINATE (g := (mkF m 47 #[.val (.ref w_CHILD_OVERRIDES), .val (.ref w_PERMIT), .val (.ref w_INDETERMINATE)] [(.ref w_INDETERMINATE)])) rfl (hb hby d1_47)
  obtain ⟨fs, hr, hrun, hended, hW, hsame⟩ := X2.leave (v := some (.ref w_PERMIT)) (fun h => by rw [Bd.returns] at h; cases h)
  refine ⟨_, _, pre0 _ ?_, hrun, hended, _, _, rfl, ?_, ⟨_, rfl⟩, hW, hsame.mono (by decide) (by decide)⟩
  · show Steps p.tables e below (s₁.setTop (mkF m 0 #[.val (.ref w_CHILD_OVERRIDES), .val (.ref w_PERMIT), .val (.ref w_INDETERMINATE)] [])) _
    refine XS.aloadN X0.here hx rfl (hb hby d1_0) rfl rfl ?_
    show Steps p.tables e below (s₁.setTop (mkF m 1 #[.val (.ref w_CHILD_OVERRIDES), .val (.ref w_PERMIT), .val (.ref w_INDETERMINATE)] [(.ref w_CHILD_OVERRIDES)])) _
    refine st1.trans ?_
    show Steps p.tables e below (T1.setTop (mkF m 4 #[.val (.ref w_CHILD_OVERRIDES), .val (.ref w_PERMIT), .val (.ref w_INDETERMINATE)] [(.int 0)])) _
    refine XS.tswIn X1.here hx rfl (pc0 := 4) (pc' := 46) rfl (hb hby d1_4) rfl (by decide) (o := 42) (by decide) (by decide) (by decide) ?_
    show Steps p.tables e below (T1.setTop (mkF m 46 #[.val (.ref w_CHILD_OVERRIDES), .val (.ref w_PERMIT), .val (.ref w_INDETERMINATE)] [])) _
    refine XS.aloadN X1.here hx rfl (hb hby d1_46) rfl rfl ?_
    show Steps p.tables e below (T1.setTop (mkF m 47 #[.val (.ref w_CHILD_OVERRIDES), .val (.ref w_PERMIT), .val (.ref w_INDETERMINATE)] [(.ref w_INDETERMINATE)])) _
    refine st2 _ ?_
    show Steps p.tables e below (T2.setTop (mkF m 50 #[.val (.ref w_CHILD_OVERRIDES), .val (.ref w_PERMIT), .val (.ref w_INDETERMINATE)] [(.ref w_INDETERMINATE), (.ref w_INDETERMINATE)])) _
    refine Jvm.RoadKit.acmp (g := (mkF m 50 #[.val (.ref w_CHILD_OVERRIDES), .val (.ref w_PERMIT), .val (.ref w_INDETERMINATE)] [(.ref w_INDETERMINATE), (.ref w_INDETERMINATE)])) X2 hx rfl rfl rfl (pc0 := 50) (pc' := 53) (same := true) rfl (hb hby d1_50) rfl (decide_eq_true rfl) (by decide) (by decide) ?_
    show Steps p.tables e below (T2.setTop (mkF m 53 #[.val (.ref w_CHILD_OVERRIDES), .val (.ref w_PERMIT), .val (.ref w_INDETERMINATE)] [])) _
    refine XS.aloadN X2.here hx rfl (hb hby d1_53) rfl rfl ?_
    show Steps p.tables e below (T2.setTop (mkF m 54 #[.val (.ref w_CHILD_OVERRIDES), .val (.ref w_PERMIT), .val (.ref w_INDETERMINATE)] [(.ref w_PERMIT)])) _
    refine XS.goto X2.here hx rfl (pc0 := 54) (pc' := 112) rfl (hb hby d1_54) (by decide) (by decide) ?_
    show Steps p.tables e below (T2.setTop (mkF m 112 #[.val (.ref w_CHILD_OVERRIDES), .val (.ref w_PERMIT), .val (.ref w_INDETERMINATE)] [(.ref w_PERMIT)])) _
    jvm_step X2.here [X2.here.top, hx, (hb hby d1_112), X2.method', Bd.returns, Value.isRef, FieldType.isReference]
    first | (intro acts; rw [hr _ acts rfl rfl rfl]) | rw [hr _ _ rfl rfl rfl]
    exact Steps.refl _
  · show Q1_w_CHILD_OVERRIDES_w_PERMIT_w_INDETERMINATE Z w_CHILD_OVERRIDES w_PERMIT w_INDETERMINATE h0 n0 _ T2.heap _
    rw [e2]
    exact ⟨rfl, N1, rfl⟩
set_option maxRecDepth 65536 in
set_option maxHeartbeats 40000000 in
theorem pc0_k002 {p : Program} {l : Launch} {e : Env} {s : State} {m : MethodId} {args : Array Value} {below : List Frame} {meth : Method} {c : Code} {T0 : State} {locs : List Loc} {Z : State} {a0 : Array Value} {h0 : Heap} {n0 : Nat} (p1 : Int32) (p2 : Int32) (p3 : Int32) (b1 : Addr) (b8 : Addr) (b15 : Addr) (k1 : ClassId) (w_CHILD_OVERRIDES : Addr) (w_PARENT_OVERRIDES : Addr) (w_AND_BOTH_PERMIT : Addr) (k8 : ClassId) (w_PERMIT : Addr) (w_DENY : Addr) (w_INDETERMINATE : Addr) (k15 : ClassId)
    (X0 : Stand p l e room_1 s m args below meth c T0 locs 3 33) (hx : p.tables.exec = Jvm.exec) (hZ : Z.Warmed39 s.vm) (hw : ∀ d ∈ tables_1, d.before a0 Z = true) (hby : c.code = code) (hml : c.maxLocals = 10) (hown : s.vm.findClass "com/example/tributary/tributary/InheritanceTypeCombinePinLaw" = some m.cls) (e0 : T0.heap = h0) (Z0 : n0 ≤ h0.size) (N0 : Fr n0 locs) (V_b1 : Arv Z h0 b1 k1 (.object "com/example/tributary/tributary/AccessList$InheritanceType") (3 : Int32) [(.ref w_CHILD_OVERRIDES), (.ref w_PARENT_OVERRIDES), (.ref w_AND_BOTH_PERMIT)] .null) (V_b8 : Arv Z h0 b8 k8 (.object "com/example/tributary/tributary/AccessList$Decision") (3 : Int32) [(.ref w_PERMIT), (.ref w_DENY), (.ref w_INDETERMINATE)] .null) (F_ordinal_w_CHILD_OVERRIDES : Fld Z h0 w_CHILD_OVERRIDES "java/lang/Enum" "ordinal" "I" (.int 0)) (E_w_CHILD_OVERRIDES : Exa Z h0 w_CHILD_OVERRIDES "com/example/tributary/tributary/AccessList$InheritanceType") (S_INDETERMINATE : Sta Z h0 "com/example/tributary/tributary/AccessList$Decision" "INDETERMINATE" "Lcom/example/tributary/tributary/AccessList$Decision;" (.ref w_INDETERMINATE)) (V_b15 : Arv Z h0 b15 k15 .int (27 : Int32) [(.int 0), (.int 1), (.int 0), (.int 0), (.int 1), (.int 1), (.int 0), (.int 1), (.int 2), (.int 0), (.int 0), (.int 0), (.int 1), (.int 1), (.int 1), (.int 0), (.int 1), (.int 2), (.int 0), (.int 1), (.int 1), (.int 1), (.int 1), (.int 1), (.int 1), (.int 1), (.int 1)] (.int (0 : Int32))) :
    ∃ (T' : State) (L' : List Loc) (Ls : Array Slot), Stand p l e room_1 s m args below meth c T' L' 3 33 ∧ Fr n0 L' ∧ ∀ target, Steps p.tables e below (T'.setTop (mkF m 253 Ls [(.int 1)])) target → Steps p.tables e below (T0.setTop (mkF m 206 #[.val (.int p1), .val (.int p2), .val (.int p3), .val (.int 0), .val (.int 0), .val (.int 2), .val (.ref b1), .val (.ref b8), .val (.ref b15), .unset] [])) target := by
  obtain ⟨cq1, kq1, q1a, q1b, q1c⟩ := isOf hZ e0 E_w_CHILD_OVERRIDES
  obtain ⟨_, _, ⟨T1, L1, k1, n1⟩, -, X1, ⟨Lc1, hQ1, l1, y1, z1⟩, st1⟩ := X0.virtualBack hx (y := (⟨"com/example/tributary/tributary/AccessList$InheritanceType", "combine", "(Lcom/example/tributary/tributary/AccessList$Decision;Lcom/example/tributary/tributary/AccessList$Decision;)Lcom/example/tributary/tributary/AccessList$Decision;"⟩ : MethodName)) (z := (⟨"com/example/tributary/tributary/AccessList$InheritanceType", "combine", "(Lcom/example/tributary/tributary/AccessList$Decision;Lcom/example/tributary/tributary/AccessList$Decision;)Lcom/example/tributary/tributary/AccessList$Decision;"⟩ : MethodName)) hown (mvT hZ (hw _ (List.mem_of_getElem? (i := 22) rfl))) (mvT hZ (hw _ (List.mem_of_getElem? (i := 23) rfl))) (notFace_of_selects (args := #[]) (mvT hZ (hw _ (List.mem_of_getElem? (i := 25) rfl)))) (mvT hZ (hw _ (List.mem_of_getElem? (i := 25) rfl))) (mvT hZ (hw _ (List.mem_of_getElem? (i := 24) rfl))) (by decide) (backOf (W := 0) (rm1_w_CHILD_OVERRIDES_w_PERMIT_w_INDETERMINATE l Z a0 hw [] w_CHILD_OVERRIDES w_PERMIT w_INDETERMINATE h0 n0 Z0 F_ordinal_w_CHILD_OVERRIDES E_w_CHILD_OVERRIDES S_INDETERMINATE) hZ (hw _ (List.mem_of_getElem? (i := 26) rfl)) (hw _ (List.mem_of_getElem? (i := 4) rfl)) (by decide) (by decide)) q1a q1c (g := (mkF m 220 #[.val (.int p1), .val (.int p2), .val (.int p3), .val (.int 0), .val (.int 0), .val (.int 2), .val (.ref b1), .val (.ref b8), .val (.ref b15), .unset] [(.ref w_INDETERMINATE), (.ref w_PERMIT), (.ref w_CHILD_OVERRIDES)])) rfl (by rw [hml]; rfl) (Steps.refl _) (argsL := [(.ref w_PERMIT), (.ref w_INDETERMINATE)]) (rest := []) (lenOf pd__Lcom_example_tributary_tributary_AccessList_Decision_Lcom_example_tributary_tributary_AccessList_Decision__Lcom_example_tributary_tributary_AccessList_Decision_ rfl) rfl (by show 2 * 0 + _ ≤ _; exact Nat.le_of_eq rfl) (hb hby at_220) (fun _ _ => ⟨rfl, e0, (by decide : 3 + 0 ≤ _), (by decide : 33 + 0 ≤ _)⟩)
  dsimp only [Pt.U, Pt.locs, Pt.cells, Pt.slots] at X1 l1 y1 z1 st1 hQ1
  subst l1 y1 z1
  obtain ⟨rfl, N1q, e1⟩ := hQ1
  have N1 := Fr.app N0 N1q
  refine ⟨T1, _, #[.val (.int p1), .val (.int p2), .val (.int p3), .val (.int 0), .val (.int 0), .val (.int 2), .val (.ref b1), .val (.ref b8), .val (.ref b15), .val (.ref w_PERMIT)], X1, N1, fun target kt => ?_⟩
  show Steps p.tables e below (T0.setTop (mkF m 206 #[.val (.int p1), .val (.int p2), .val (.int p3), .val (.int 0), .val (.int 0), .val (.int 2), .val (.ref b1), .val (.ref b8), .val (.ref b15), .unset] [])) _
  refine XS.aload X0.here hx rfl (hb hby at_206) rfl rfl ?_
  show Steps p.tables e below (T0.setTop (mkF m 208 #[.val (.int p1), .val (.int p2), .val (.int p3), .val (.int 0), .val (.int 0), .val (.int 2), .val (.ref b1), .val (.ref b8), .val (.ref b15), .unset] [(.ref b1)])) _
  refine XS.iloadN X0.here hx rfl (hb hby at_208) rfl ?_
  show Steps p.tables e below (T0.setTop (mkF m 209 #[.val (.int p1), .val (.int p2), .val (.int p3), .val (.int 0), .val (.int 0), .val (.int 2), .val (.ref b1), .val (.ref b8), .val (.ref b15), .unset] [(.int 0), (.ref b1)])) _
  refine own_ldR X0 hx hZ e0 V_b1 (j := (0 : Int32)) ⟨by decide, by decide⟩ rfl (g := (mkF m 209 #[.val (.int p1), .val (.int p2), .val (.int p3), .val (.int 0), .val (.int 0), .val (.int 2), .val (.ref b1), .val (.ref b8), .val (.ref b15), .unset] [(.int 0), (.ref b1)])) rfl rfl (hb hby at_209) _ ?_
  show Steps p.tables e below (T0.setTop (mkF m 210 #[.val (.int p1), .val (.int p2), .val (.int p3), .val (.int 0), .val (.int 0), .val (.int 2), .val (.ref b1), .val (.ref b8), .val (.ref b15), .unset] [(.ref w_CHILD_OVERRIDES)])) _
  refine XS.aload X0.here hx rfl (hb hby at_210) rfl rfl ?_
  show Steps p.tables e below (T0.setTop (mkF m 212 #[.val (.int p1), .val (.int p2), .val (.int p3), .val (.int 0), .val (.int 0), .val (.int 2), .val (.ref b1), .val (.ref b8), .val (.ref b15), .unset] [(.ref b8), (.ref w_CHILD_OVERRIDES)])) _
  refine XS.iload X0.here hx rfl (hb hby at_212) rfl ?_
  show Steps p.tables e below (T0.setTop (mkF m 214 #[.val (.int p1), .val (.int p2), .val (.int p3), .val (.int 0), .val (.int 0), .val (.int 2), .val (.ref b1), .val (.ref b8), .val (.ref b15), .unset] [(.int 0), (.ref b8), (.ref w_CHILD_OVERRIDES)])) _
  refine own_ldR X0 hx hZ e0 V_b8 (j := (0 : Int32)) ⟨by decide, by decide⟩ rfl (g := (mkF m 214 #[.val (.int p1), .val (.int p2), .val (.int p3), .val (.int 0), .val (.int 0), .val (.int 2), .val (.ref b1), .val (.ref b8), .val (.ref b15), .unset] [(.int 0), (.ref b8), (.ref w_CHILD_OVERRIDES)])) rfl rfl (hb hby at_214) _ ?_
  show Steps p.tables e below (T0.setTop (mkF m 215 #[.val (.int p1), .val (.int p2), .val (.int p3), .val (.int 0), .val (.int 0), .val (.int 2), .val (.ref b1), .val (.ref b8), .val (.ref b15), .unset] [(.ref w_PERMIT), (.ref w_CHILD_OVERRIDES)])) _
  refine XS.aload X0.here hx rfl (hb hby at_215) rfl rfl ?_
  show Steps p.tables e below (T0.setTop (mkF m 217 #[.val (.int p1), .val (.int p2), .val (.int p3), .val (.int 0), .val (.int 0), .val (.int 2), .val (.ref b1), .val (.ref b8), .val (.ref b15), .unset] [(.ref b8), (.ref w_PERMIT), (.ref w_CHILD_OVERRIDES)])) _
  refine XS.iload X0.here hx rfl (hb hby at_217) rfl ?_
  show Steps p.tables e below (T0.setTop (mkF m 219 #[.val (.int p1), .val (.int p2), .val (.int p3), .val (.int 0), .val (.int 0), .val (.int 2), .val (.ref b1), .val (.ref b8), .val (.ref b15), .unset] [(.int 2), (.ref b8), (.ref w_PERMIT), (.ref w_CHILD_OVERRIDES)])) _
  refine own_ldR X0 hx hZ e0 V_b8 (j := (2 : Int32)) ⟨by decide, by decide⟩ rfl (g := (mkF m 219 #[.val (.int p1), .val (.int p2), .val (.int p3), .val (.int 0), .val (.int 0), .val (.int 2), .val (.ref b1), .val (.ref b8), .val (.ref b15), .unset] [(.int 2), (.ref b8), (.ref w_PERMIT), (.ref w_CHILD_OVERRIDES)])) rfl rfl (hb hby at_219) _ ?_
  show Steps p.tables e below (T0.setTop (mkF m 220 #[.val (.int p1), .val (.int p2), .val (.int p3), .val (.int 0), .val (.int 0), .val (.int 2), .val (.ref b1), .val (.ref b8), .val (.ref b15), .unset] [(.ref w_INDETERMINATE), (.ref w_PERMIT), (.ref w_CHILD_OVERRIDES)])) _
  refine st1.trans ?_
  show Steps p.tables e below (T1.setTop (mkF m 223 #[.val (.int p1), .val (.int p2), .val (.int p3), .val (.int 0), .val (.int 0), .val (.int 2), .val (.ref b1), .val (.ref b8), .val (.ref b15), .unset] [(.ref w_PERMIT)])) _
  refine XS.astore X1.here hx rfl (hb hby at_223) rfl rfl (l' := #[.val (.int p1), .val (.int p2), .val (.int p3), .val (.int 0), .val (.int 0), .val (.int 2), .val (.ref b1), .val (.ref b8), .val (.ref b15), .val (.ref w_PERMIT)]) rfl ?_
  show Steps p.tables e below (T1.setTop (mkF m 225 #[.val (.int p1), .val (.int p2), .val (.int p3), .val (.int 0), .val (.int 0), .val (.int 2), .val (.ref b1), .val (.ref b8), .val (.ref b15), .val (.ref w_PERMIT)] [])) _
  refine XS.aload X1.here hx rfl (hb hby at_225) rfl rfl ?_
  show Steps p.tables e below (T1.setTop (mkF m 227 #[.val (.int p1), .val (.int p2), .val (.int p3), .val (.int 0), .val (.int 0), .val (.int 2), .val (.ref b1), .val (.ref b8), .val (.ref b15), .val (.ref w_PERMIT)] [(.ref w_PERMIT)])) _
  refine XS.aload X1.here hx rfl (hb hby at_227) rfl rfl ?_
  show Steps p.tables e below (T1.setTop (mkF m 229 #[.val (.int p1), .val (.int p2), .val (.int p3), .val (.int 0), .val (.int 0), .val (.int 2), .val (.ref b1), .val (.ref b8), .val (.ref b15), .val (.ref w_PERMIT)] [(.ref b8), (.ref w_PERMIT)])) _
  refine XS.aload X1.here hx rfl (hb hby at_229) rfl rfl ?_
  show Steps p.tables e below (T1.setTop (mkF m 231 #[.val (.int p1), .val (.int p2), .val (.int p3), .val (.int 0), .val (.int 0), .val (.int 2), .val (.ref b1), .val (.ref b8), .val (.ref b15), .val (.ref w_PERMIT)] [(.ref b15), (.ref b8), (.ref w_PERMIT)])) _
  refine XS.iloadN X1.here hx rfl (hb hby at_231) rfl ?_
  show Steps p.tables e below (T1.setTop (mkF m 232 #[.val (.int p1), .val (.int p2), .val (.int p3), .val (.int 0), .val (.int 0), .val (.int 2), .val (.ref b1), .val (.ref b8), .val (.ref b15), .val (.ref w_PERMIT)] [(.int 0), (.ref b15), (.ref b8), (.ref w_PERMIT)])) _
  refine XS.bipush X1.here hx rfl (hb hby at_232) ?_
  show Steps p.tables e below (T1.setTop (mkF m 234 #[.val (.int p1), .val (.int p2), .val (.int p3), .val (.int 0), .val (.int 0), .val (.int 2), .val (.ref b1), .val (.ref b8), .val (.ref b15), .val (.ref w_PERMIT)] [(.int 9), (.int 0), (.ref b15), (.ref b8), (.ref w_PERMIT)])) _
  refine XS.imul X1.here hx rfl (hb hby at_234) rfl ?_
  show Steps p.tables e below (T1.setTop (mkF m 235 #[.val (.int p1), .val (.int p2), .val (.int p3), .val (.int 0), .val (.int 0), .val (.int 2), .val (.ref b1), .val (.ref b8), .val (.ref b15), .val (.ref w_PERMIT)] [(.int ((0 : Int32) * (9 : Int32))), (.ref b15), (.ref b8), (.ref w_PERMIT)])) _
  rw [(by decide : ((0 : Int32) * (9 : Int32)) = (0 : Int32))]
  show Steps p.tables e below (T1.setTop (mkF m 235 #[.val (.int p1), .val (.int p2), .val (.int p3), .val (.int 0), .val (.int 0), .val (.int 2), .val (.ref b1), .val (.ref b8), .val (.ref b15), .val (.ref w_PERMIT)] [(.int 0), (.ref b15), (.ref b8), (.ref w_PERMIT)])) _
  refine XS.iload X1.here hx rfl (hb hby at_235) rfl ?_
  show Steps p.tables e below (T1.setTop (mkF m 237 #[.val (.int p1), .val (.int p2), .val (.int p3), .val (.int 0), .val (.int 0), .val (.int 2), .val (.ref b1), .val (.ref b8), .val (.ref b15), .val (.ref w_PERMIT)] [(.int 0), (.int 0), (.ref b15), (.ref b8), (.ref w_PERMIT)])) _
  refine XS.iconst X1.here hx rfl (hb hby at_237) ?_
  show Steps p.tables e below (T1.setTop (mkF m 238 #[.val (.int p1), .val (.int p2), .val (.int p3), .val (.int 0), .val (.int 0), .val (.int 2), .val (.ref b1), .val (.ref b8), .val (.ref b15), .val (.ref w_PERMIT)] [(.int 3), (.int 0), (.int 0), (.ref b15), (.ref b8), (.ref w_PERMIT)])) _
  refine XS.imul X1.here hx rfl (hb hby at_238) rfl ?_
  show Steps p.tables e below (T1.setTop (mkF m 239 #[.val (.int p1), .val (.int p2), .val (.int p3), .val (.int 0), .val (.int 0), .val (.int 2), .val (.ref b1), .val (.ref b8), .val (.ref b15), .val (.ref w_PERMIT)] [(.int ((0 : Int32) * (3 : Int32))), (.int 0), (.ref b15), (.ref b8), (.ref w_PERMIT)])) _
  rw [(by decide : ((0 : Int32) * (3 : Int32)) = (0 : Int32))]
  show Steps p.tables e below (T1.setTop (mkF m 239 #[.val (.int p1), .val (.int p2), .val (.int p3), .val (.int 0), .val (.int 0), .val (.int 2), .val (.ref b1), .val (.ref b8), .val (.ref b15), .val (.ref w_PERMIT)] [(.int 0), (.int 0), (.ref b15), (.ref b8), (.ref w_PERMIT)])) _
  refine XS.iadd X1.here hx rfl (hb hby at_239) rfl ?_
  show Steps p.tables e below (T1.setTop (mkF m 240 #[.val (.int p1), .val (.int p2), .val (.int p3), .val (.int 0), .val (.int 0), .val (.int 2), .val (.ref b1), .val (.ref b8), .val (.ref b15), .val (.ref w_PERMIT)] [(.int ((0 : Int32) + (0 : Int32))), (.ref b15), (.ref b8), (.ref w_PERMIT)])) _
  rw [(by decide : ((0 : Int32) + (0 : Int32)) = (0 : Int32))]
  show Steps p.tables e below (T1.setTop (mkF m 240 #[.val (.int p1), .val (.int p2), .val (.int p3), .val (.int 0), .val (.int 0), .val (.int 2), .val (.ref b1), .val (.ref b8), .val (.ref b15), .val (.ref w_PERMIT)] [(.int 0), (.ref b15), (.ref b8), (.ref w_PERMIT)])) _
  refine XS.iload X1.here hx rfl (hb hby at_240) rfl ?_
  show Steps p.tables e below (T1.setTop (mkF m 242 #[.val (.int p1), .val (.int p2), .val (.int p3), .val (.int 0), .val (.int 0), .val (.int 2), .val (.ref b1), .val (.ref b8), .val (.ref b15), .val (.ref w_PERMIT)] [(.int 2), (.int 0), (.ref b15), (.ref b8), (.ref w_PERMIT)])) _
  refine XS.iadd X1.here hx rfl (hb hby at_242) rfl ?_
  show Steps p.tables e below (T1.setTop (mkF m 243 #[.val (.int p1), .val (.int p2), .val (.int p3), .val (.int 0), .val (.int 0), .val (.int 2), .val (.ref b1), .val (.ref b8), .val (.ref b15), .val (.ref w_PERMIT)] [(.int ((0 : Int32) + (2 : Int32))), (.ref b15), (.ref b8), (.ref w_PERMIT)])) _
  rw [(by decide : ((0 : Int32) + (2 : Int32)) = (2 : Int32))]
  show Steps p.tables e below (T1.setTop (mkF m 243 #[.val (.int p1), .val (.int p2), .val (.int p3), .val (.int 0), .val (.int 0), .val (.int 2), .val (.ref b1), .val (.ref b8), .val (.ref b15), .val (.ref w_PERMIT)] [(.int 2), (.ref b15), (.ref b8), (.ref w_PERMIT)])) _
  refine own_ldI X1 hx hZ e1 V_b15 (j := (2 : Int32)) ⟨by decide, by decide⟩ rfl (g := (mkF m 243 #[.val (.int p1), .val (.int p2), .val (.int p3), .val (.int 0), .val (.int 0), .val (.int 2), .val (.ref b1), .val (.ref b8), .val (.ref b15), .val (.ref w_PERMIT)] [(.int 2), (.ref b15), (.ref b8), (.ref w_PERMIT)])) rfl rfl (hb hby at_243) _ ?_
  show Steps p.tables e below (T1.setTop (mkF m 244 #[.val (.int p1), .val (.int p2), .val (.int p3), .val (.int 0), .val (.int 0), .val (.int 2), .val (.ref b1), .val (.ref b8), .val (.ref b15), .val (.ref w_PERMIT)] [(.int 0), (.ref b8), (.ref w_PERMIT)])) _
  refine own_ldR X1 hx hZ e1 V_b8 (j := (0 : Int32)) ⟨by decide, by decide⟩ rfl (g := (mkF m 244 #[.val (.int p1), .val (.int p2), .val (.int p3), .val (.int 0), .val (.int 0), .val (.int 2), .val (.ref b1), .val (.ref b8), .val (.ref b15), .val (.ref w_PERMIT)] [(.int 0), (.ref b8), (.ref w_PERMIT)])) rfl rfl (hb hby at_244) _ ?_
  show Steps p.tables e below (T1.setTop (mkF m 245 #[.val (.int p1), .val (.int p2), .val (.int p3), .val (.int 0), .val (.int 0), .val (.int 2), .val (.ref b1), .val (.ref b8), .val (.ref b15), .val (.ref w_PERMIT)] [(.ref w_PERMIT), (.ref w_PERMIT)])) _
  refine Jvm.RoadKit.acmp (g := (mkF m 245 #[.val (.int p1), .val (.int p2), .val (.int p3), .val (.int 0), .val (.int 0), .val (.int 2), .val (.ref b1), .val (.ref b8), .val (.ref b15), .val (.ref w_PERMIT)] [(.ref w_PERMIT), (.ref w_PERMIT)])) X1 hx rfl rfl rfl (pc0 := 245) (pc' := 248) (same := true) rfl (hb hby at_245) rfl (decide_eq_true rfl) (by decide) (by decide) ?_
  show Steps p.tables e below (T1.setTop (mkF m 248 #[.val (.int p1), .val (.int p2), .val (.int p3), .val (.int 0), .val (.int 0), .val (.int 2), .val (.ref b1), .val (.ref b8), .val (.ref b15), .val (.ref w_PERMIT)] [])) _
  refine XS.iconst X1.here hx rfl (hb hby at_248) ?_
  show Steps p.tables e below (T1.setTop (mkF m 249 #[.val (.int p1), .val (.int p2), .val (.int p3), .val (.int 0), .val (.int 0), .val (.int 2), .val (.ref b1), .val (.ref b8), .val (.ref b15), .val (.ref w_PERMIT)] [(.int 1)])) _
  refine XS.goto X1.here hx rfl (pc0 := 249) (pc' := 253) rfl (hb hby at_249) (by decide) (by decide) ?_
  show Steps p.tables e below (T1.setTop (mkF m 253 #[.val (.int p1), .val (.int p2), .val (.int p3), .val (.int 0), .val (.int 0), .val (.int 2), .val (.ref b1), .val (.ref b8), .val (.ref b15), .val (.ref w_PERMIT)] [(.int 1)])) _
  exact kt
def Q1_w_CHILD_OVERRIDES_w_DENY_w_PERMIT (Z : State) (w_CHILD_OVERRIDES : Addr) (w_DENY : Addr) (w_PERMIT : Addr) (w_INDETERMINATE : Addr) (h0 : Heap) (n0 : Nat) (v : Option Value) (h : Heap) (L : List Loc) : Prop := v = some (.ref w_PERMIT) ∧ Fr n0 L ∧ h = h0
set_option maxRecDepth 65536 in
set_option maxHeartbeats 40000000 in
theorem rm1_w_CHILD_OVERRIDES_w_DENY_w_PERMIT (l : Launch) (Z : State) (a0 : Array Value) (hw : ∀ d ∈ tables_1, d.before a0 Z = true) (ws : List Jvm.Cond) (w_CHILD_OVERRIDES : Addr) (w_DENY : Addr) (w_PERMIT : Addr) (w_INDETERMINATE : Addr) (h0 : Heap) (n0 : Nat) (Z0 : n0 ≤ h0.size) (F_ordinal_w_CHILD_OVERRIDES : Fld Z h0 w_CHILD_OVERRIDES "java/lang/Enum" "ordinal" "I" (.int 0)) (E_w_CHILD_OVERRIDES : Exa Z h0 w_CHILD_OVERRIDES "com/example/tributary/tributary/AccessList$InheritanceType") (S_INDETERMINATE : Sta Z h0 "com/example/tributary/tributary/AccessList$Decision" "INDETERMINATE" "Lcom/example/tributary/tributary/AccessList$Decision;" (.ref w_INDETERMINATE)) (n_w_INDETERMINATE_w_PERMIT : ¬ (w_INDETERMINATE = w_PERMIT)) :
    MetFree l (⟨"com/example/tributary/tributary/AccessList$InheritanceType", "combine", "(Lcom/example/tributary/tributary/AccessList$Decision;Lcom/example/tributary/tributary/AccessList$Decision;)Lcom/example/tributary/tributary/AccessList$Decision;"⟩ : MethodName) (head1 (Jvm.Cond.code (⟨"com/example/tributary/tributary/AccessList$InheritanceType", "combine", "(Lcom/example/tributary/tributary/AccessList$Decision;Lcom/example/tributary/tributary/AccessList$Decision;)Lcom/example/tributary/tributary/AccessList$Decision;"⟩ : MethodName) prog_6_method_4_code 3 (some (.object "com/example/tributary/tributary/AccessList$Decision")) :: ws) ({ frames := 1, cells := 0, slots := 0, locals := 12 } : Room)) (fun a U => a = #[(.ref w_CHILD_OVERRIDES), (.ref w_DENY), (.ref w_PERMIT)] ∧ Z.Warmed39 U.vm ∧ U.heap = h0) (fun _ _ _ _ _ => True) (fun _ U o U' => ∃ v L, o = .returned v ∧ Q1_w_CHILD_OVERRIDES_w_DENY_w_PERMIT Z w_CHILD_OVERRIDES w_DENY w_PERMIT w_INDETERMINATE h0 n0 v U'.heap L ∧ FrameEnd U o U' L ({ frames := 1, cells := 0, slots := 0, locals := 12 } : Room).cells ({ frames := 1, cells := 0, slots := 0, locals := 12 } : Room).slots) := by
  refine MetFree.of_bodySF (plainFor_of_name pn_1) hisR ?_
  intro p e s m args below meth c s₁ Bd hml0 hP hK
  obtain ⟨rfl, hZ, hh⟩ := hP
  have hx := Bd.exec
  have hby := Bd.bytes
  have hml : c.maxLocals = 3 := hml0
  have hown : s.vm.findClass "com/example/tributary/tributary/AccessList$InheritanceType" = some m.cls := findClass_of_methodNamed Bd.named
  have hnm := (name_of_methodNamed Bd.named Bd.method).1
  have X0 : Stand p l e ({ frames := 1, cells := 0, slots := 0, locals := 12 } : Room) s m #[(.ref w_CHILD_OVERRIDES), (.ref w_DENY), (.ref w_PERMIT)] below meth c s₁ [] 0 0 := Stand.of_body Bd
  have e0 : s₁.heap = h0 := by rw [← hh, Bd.state]; rfl
  have N0 := Fr.nil n0
  have pre0 : ∀ t, Steps p.tables e below (s₁.setTop (mkF m 0 #[.val (.ref w_CHILD_OVERRIDES), .val (.ref w_DENY), .val (.ref w_PERMIT)] [])) t → Steps p.tables e below (s₁.setTop (entryFrame m #[(.ref w_CHILD_OVERRIDES), (.ref w_DENY), (.ref w_PERMIT)] 3)) t := fun t k => castTop (by first | (simp [entryFrame, mkF, argsToLocals, Value.category]; done) | rfl) k
  obtain ⟨cq1, kq1, q1a, q1b, q1c⟩ := isOf hZ e0 E_w_CHILD_OVERRIDES
  obtain ⟨_, _, ⟨T1, L1, k1, n1⟩, -, X1, ⟨Lc1, hQ1, l1, y1, z1⟩, st1⟩ := X0.virtualBackUp hx (x := (⟨"com/example/tributary/tributary/AccessList$InheritanceType", "ordinal", "()I"⟩ : MethodName)) (y := (⟨"java/lang/Enum", "ordinal", "()I"⟩ : MethodName)) (owner := "java/lang/Enum") hown (mvT hZ (hw _ (List.mem_of_getElem? (i := 27) rfl))) (mvT hZ (hw _ (List.mem_of_getElem? (i := 28) rfl))) (mvT hZ (hw _ (List.mem_of_getElem? (i := 29) rfl))) (by decide) (mvT hZ (hw _ (List.mem_of_getElem? (i := 31) rfl))) (mvT hZ (hw _ (List.mem_of_getElem? (i := 30) rfl))) (backOf (W := 0) (rm2_w_CHILD_OVERRIDES l Z a0 hw [] w_CHILD_OVERRIDES h0 n0 Z0 F_ordinal_w_CHILD_OVERRIDES) hZ (hw _ (List.mem_of_getElem? (i := 33) rfl)) (hw _ (List.mem_of_getElem? (i := 32) rfl)) (by decide) (by decide)) q1a q1c (g := (mkF m 1 #[.val (.ref w_CHILD_OVERRIDES), .val (.ref w_DENY), .val (.ref w_PERMIT)] [(.ref w_CHILD_OVERRIDES)])) rfl (by rw [hml]; rfl) (Steps.refl _) (argsL := []) (rest := []) (lenOf pd___I rfl) rfl (by show 2 * 0 + _ ≤ _; exact Nat.le_of_eq rfl) (hb hby d1_1) (fun _ _ => ⟨rfl, e0, (by decide : 0 + 0 ≤ _), (by decide : 0 + 0 ≤ _)⟩)
  dsimp only [Pt.U, Pt.locs, Pt.cells, Pt.slots] at X1 l1 y1 z1 st1 hQ1
  subst l1 y1 z1
  obtain ⟨rfl, N1q, e1⟩ := hQ1
  have N1 := Fr.app N0 N1q
  obtain ⟨T2, X2, e2, st2⟩ := getS2 X1 hx hZ hown (host := "") (Or.inl (hw _ (List.mem_of_getElem? (i := 36) rfl))) Via.refl e1 S_INDETERMINATE (g := (mkF m 47 #[.val (.ref w_CHILD_OVERRIDES), .val (.ref w_DENY), .val (.ref w_PERMIT)] [(.ref w_PERMIT)])) rfl (hb hby d1_47)
  obtain ⟨fs, hr, hrun, hended, hW, hsame⟩ := X2.leave (v := some (.ref w_PERMIT)) (fun h => by rw [Bd.returns] at h; cases h)
  refine ⟨_, _, pre0 _ ?_, hrun, hended, _, _, rfl, ?_, ⟨_, rfl⟩, hW, hsame.mono (by decide) (by decide)⟩
  · show Steps p.tables e below (s₁.setTop (mkF m 0 #[.val (.ref w_CHILD_OVERRIDES), .val (.ref w_DENY), .val (.ref w_PERMIT)] [])) _
    refine XS.aloadN X0.here hx rfl (hb hby d1_0) rfl rfl ?_
    show Steps p.tables e below (s₁.setTop (mkF m 1 #[.val (.ref w_CHILD_OVERRIDES), .val (.ref w_DENY), .val (.ref w_PERMIT)] [(.ref w_CHILD_OVERRIDES)])) _
    refine st1.trans ?_
    show Steps p.tables e below (T1.setTop (mkF m 4 #[.val (.ref w_CHILD_OVERRIDES), .val (.ref w_DENY), .val (.ref w_PERMIT)] [(.int 0)])) _
    refine XS.tswIn X1.here hx rfl (pc0 := 4) (pc' := 46) rfl (hb hby d1_4) rfl (by decide) (o := 42) (by decide) (by decide) (by decide) ?_
    show Steps p.tables e below (T1.setTop (mkF m 46 #[.val (.ref w_CHILD_OVERRIDES), .val (.ref w_DENY), .val (.ref w_PERMIT)] [])) _
    refine XS.aloadN X1.here hx rfl (hb hby d1_46) rfl rfl ?_
    show Steps p.tables e below (T1.setTop (mkF m 47 #[.val (.ref w_CHILD_OVERRIDES), .val (.ref w_DENY), .val (.ref w_PERMIT)] [(.ref w_PERMIT)])) _
    refine st2 _ ?_
    show Steps p.tables e below (T2.setTop (mkF m 50 #[.val (.ref w_CHILD_OVERRIDES), .val (.ref w_DENY), .val (.ref w_PERMIT)] [(.ref w_INDETERMINATE), (.ref w_PERMIT)])) _
    refine Jvm.RoadKit.acmp (g := (mkF m 50 #[.val (.ref w_CHILD_OVERRIDES), .val (.ref w_DENY), .val (.ref w_PERMIT)] [(.ref w_INDETERMINATE), (.ref w_PERMIT)])) X2 hx rfl rfl rfl (pc0 := 50) (pc' := 57) (same := false) rfl (hb hby d1_50) rfl (decide_eq_false fun q => (Ne.symm n_w_INDETERMINATE_w_PERMIT) (Value.ref.inj q)) (by decide) (by decide) ?_
    show Steps p.tables e below (T2.setTop (mkF m 57 #[.val (.ref w_CHILD_OVERRIDES), .val (.ref w_DENY), .val (.ref w_PERMIT)] [])) _
    refine XS.aloadN X2.here hx rfl (hb hby d1_57) rfl rfl ?_
    show Steps p.tables e below (T2.setTop (mkF m 58 #[.val (.ref w_CHILD_OVERRIDES), .val (.ref w_DENY), .val (.ref w_PERMIT)] [(.ref w_PERMIT)])) _
    refine XS.goto X2.here hx rfl (pc0 := 58) (pc' := 112) rfl (hb hby d1_58) (by decide) (by decide) ?_
    show Steps p.tables e below (T2.setTop (mkF m 112 #[.val (.ref w_CHILD_OVERRIDES), .val (.ref w_DENY), .val (.ref w_PERMIT)] [(.ref w_PERMIT)])) _
    jvm_step X2.here [X2.here.top, hx, (hb hby d1_112), X2.method', Bd.returns, Value.isRef, FieldType.isReference]
    first | (intro acts; rw [hr _ acts rfl rfl rfl]) | rw [hr _ _ rfl rfl rfl]
    exact Steps.refl _
  · show Q1_w_CHILD_OVERRIDES_w_DENY_w_PERMIT Z w_CHILD_OVERRIDES w_DENY w_PERMIT w_INDETERMINATE h0 n0 _ T2.heap _
    rw [e2]
    exact ⟨rfl, N1, rfl⟩
set_option maxRecDepth 65536 in
set_option maxHeartbeats 40000000 in
theorem pc0_k010 {p : Program} {l : Launch} {e : Env} {s : State} {m : MethodId} {args : Array Value} {below : List Frame} {meth : Method} {c : Code} {T0 : State} {locs : List Loc} {Z : State} {a0 : Array Value} {h0 : Heap} {n0 : Nat} (p1 : Int32) (p2 : Int32) (p3 : Int32) (b1 : Addr) (b8 : Addr) (b15 : Addr) (k1 : ClassId) (w_CHILD_OVERRIDES : Addr) (w_PARENT_OVERRIDES : Addr) (w_AND_BOTH_PERMIT : Addr) (k8 : ClassId) (w_PERMIT : Addr) (w_DENY : Addr) (w_INDETERMINATE : Addr) (k15 : ClassId)
    (X0 : Stand p l e room_1 s m args below meth c T0 locs 3 33) (hx : p.tables.exec = Jvm.exec) (hZ : Z.Warmed39 s.vm) (hw : ∀ d ∈ tables_1, d.before a0 Z = true) (hby : c.code = code) (hml : c.maxLocals = 10) (hown : s.vm.findClass "com/example/tributary/tributary/InheritanceTypeCombinePinLaw" = some m.cls) (e0 : T0.heap = h0) (Z0 : n0 ≤ h0.size) (N0 : Fr n0 locs) (V_b1 : Arv Z h0 b1 k1 (.object "com/example/tributary/tributary/AccessList$InheritanceType") (3 : Int32) [(.ref w_CHILD_OVERRIDES), (.ref w_PARENT_OVERRIDES), (.ref w_AND_BOTH_PERMIT)] .null) (V_b8 : Arv Z h0 b8 k8 (.object "com/example/tributary/tributary/AccessList$Decision") (3 : Int32) [(.ref w_PERMIT), (.ref w_DENY), (.ref w_INDETERMINATE)] .null) (F_ordinal_w_CHILD_OVERRIDES : Fld Z h0 w_CHILD_OVERRIDES "java/lang/Enum" "ordinal" "I" (.int 0)) (E_w_CHILD_OVERRIDES : Exa Z h0 w_CHILD_OVERRIDES "com/example/tributary/tributary/AccessList$InheritanceType") (S_INDETERMINATE : Sta Z h0 "com/example/tributary/tributary/AccessList$Decision" "INDETERMINATE" "Lcom/example/tributary/tributary/AccessList$Decision;" (.ref w_INDETERMINATE)) (n_w_INDETERMINATE_w_PERMIT : ¬ (w_INDETERMINATE = w_PERMIT)) (V_b15 : Arv Z h0 b15 k15 .int (27 : Int32) [(.int 0), (.int 1), (.int 0), (.int 0), (.int 1), (.int 1), (.int 0), (.int 1), (.int 2), (.int 0), (.int 0), (.int 0), (.int 1), (.int 1), (.int 1), (.int 0), (.int 1), (.int 2), (.int 0), (.int 1), (.int 1), (.int 1), (.int 1), (.int 1), (.int 1), (.int 1), (.int 1)] (.int (0 : Int32))) :
    ∃ (T' : State) (L' : List Loc) (Ls : Array Slot), Stand p l e room_1 s m args below meth c T' L' 3 33 ∧ Fr n0 L' ∧ ∀ target, Steps p.tables e below (T'.setTop (mkF m 253 Ls [(.int 1)])) target → Steps p.tables e below (T0.setTop (mkF m 206 #[.val (.int p1), .val (.int p2), .val (.int p3), .val (.int 0), .val (.int 1), .val (.int 0), .val (.ref b1), .val (.ref b8), .val (.ref b15), .unset] [])) target := by
  obtain ⟨cq1, kq1, q1a, q1b, q1c⟩ := isOf hZ e0 E_w_CHILD_OVERRIDES
  obtain ⟨_, _, ⟨T1, L1, k1, n1⟩, -, X1, ⟨Lc1, hQ1, l1, y1, z1⟩, st1⟩ := X0.virtualBack hx (y := (⟨"com/example/tributary/tributary/AccessList$InheritanceType", "combine", "(Lcom/example/tributary/tributary/AccessList$Decision;Lcom/example/tributary/tributary/AccessList$Decision;)Lcom/example/tributary/tributary/AccessList$Decision;"⟩ : MethodName)) (z := (⟨"com/example/tributary/tributary/AccessList$InheritanceType", "combine", "(Lcom/example/tributary/tributary/AccessList$Decision;Lcom/example/tributary/tributary/AccessList$Decision;)Lcom/example/tributary/tributary/AccessList$Decision;"⟩ : MethodName)) hown (mvT hZ (hw _ (List.mem_of_getElem? (i := 22) rfl))) (mvT hZ (hw _ (List.mem_of_getElem? (i := 23) rfl))) (notFace_of_selects (args := #[]) (mvT hZ (hw _ (List.mem_of_getElem? (i := 25) rfl)))) (mvT hZ (hw _ (List.mem_of_getElem? (i := 25) rfl))) (mvT hZ (hw _ (List.mem_of_getElem? (i := 24) rfl))) (by decide) (backOf (W := 0) (rm1_w_CHILD_OVERRIDES_w_DENY_w_PERMIT l Z a0 hw [] w_CHILD_OVERRIDES w_DENY w_PERMIT w_INDETERMINATE h0 n0 Z0 F_ordinal_w_CHILD_OVERRIDES E_w_CHILD_OVERRIDES S_INDETERMINATE n_w_INDETERMINATE_w_PERMIT) hZ (hw _ (List.mem_of_getElem? (i := 26) rfl)) (hw _ (List.mem_of_getElem? (i := 4) rfl)) (by decide) (by decide)) q1a q1c (g := (mkF m 220 #[.val (.int p1), .val (.int p2), .val (.int p3), .val (.int 0), .val (.int 1), .val (.int 0), .val (.ref b1), .val (.ref b8), .val (.ref b15), .unset] [(.ref w_PERMIT), (.ref w_DENY), (.ref w_CHILD_OVERRIDES)])) rfl (by rw [hml]; rfl) (Steps.refl _) (argsL := [(.ref w_DENY), (.ref w_PERMIT)]) (rest := []) (lenOf pd__Lcom_example_tributary_tributary_AccessList_Decision_Lcom_example_tributary_tributary_AccessList_Decision__Lcom_example_tributary_tributary_AccessList_Decision_ rfl) rfl (by show 2 * 0 + _ ≤ _; exact Nat.le_of_eq rfl) (hb hby at_220) (fun _ _ => ⟨rfl, e0, (by decide : 3 + 0 ≤ _), (by decide : 33 + 0 ≤ _)⟩)
  dsimp only [Pt.U, Pt.locs, Pt.cells, Pt.slots] at X1 l1 y1 z1 st1 hQ1
  subst l1 y1 z1
  obtain ⟨rfl, N1q, e1⟩ := hQ1
  have N1 := Fr.app N0 N1q
  refine ⟨T1, _, #[.val (.int p1), .val (.int p2), .val (.int p3), .val (.int 0), .val (.int 1), .val (.int 0), .val (.ref b1), .val (.ref b8), .val (.ref b15), .val (.ref w_PERMIT)], X1, N1, fun target kt => ?_⟩
  show Steps p.tables e below (T0.setTop (mkF m 206 #[.val (.int p1), .val (.int p2), .val (.int p3), .val (.int 0), .val (.int 1), .val (.int 0), .val (.ref b1), .val (.ref b8), .val (.ref b15), .unset] [])) _
  refine XS.aload X0.here hx rfl (hb hby at_206) rfl rfl ?_
  show Steps p.tables e below (T0.setTop (mkF m 208 #[.val (.int p1), .val (.int p2), .val (.int p3), .val (.int 0), .val (.int 1), .val (.int 0), .val (.ref b1), .val (.ref b8), .val (.ref b15), .unset] [(.ref b1)])) _
  refine XS.iloadN X0.here hx rfl (hb hby at_208) rfl ?_
  show Steps p.tables e below (T0.setTop (mkF m 209 #[.val (.int p1), .val (.int p2), .val (.int p3), .val (.int 0), .val (.int 1), .val (.int 0), .val (.ref b1), .val (.ref b8), .val (.ref b15), .unset] [(.int 0), (.ref b1)])) _
  refine own_ldR X0 hx hZ e0 V_b1 (j := (0 : Int32)) ⟨by decide, by decide⟩ rfl (g := (mkF m 209 #[.val (.int p1), .val (.int p2), .val (.int p3), .val (.int 0), .val (.int 1), .val (.int 0), .val (.ref b1), .val (.ref b8), .val (.ref b15), .unset] [(.int 0), (.ref b1)])) rfl rfl (hb hby at_209) _ ?_
  show Steps p.tables e below (T0.setTop (mkF m 210 #[.val (.int p1), .val (.int p2), .val (.int p3), .val (.int 0), .val (.int 1), .val (.int 0), .val (.ref b1), .val (.ref b8), .val (.ref b15), .unset] [(.ref w_CHILD_OVERRIDES)])) _
  refine XS.aload X0.here hx rfl (hb hby at_210) rfl rfl ?_
  show Steps p.tables e below (T0.setTop (mkF m 212 #[.val (.int p1), .val (.int p2), .val (.int p3), .val (.int 0), .val (.int 1), .val (.int 0), .val (.ref b1), .val (.ref b8), .val (.ref b15), .unset] [(.ref b8), (.ref w_CHILD_OVERRIDES)])) _
  refine XS.iload X0.here hx rfl (hb hby at_212) rfl ?_
  show Steps p.tables e below (T0.setTop (mkF m 214 #[.val (.int p1), .val (.int p2), .val (.int p3), .val (.int 0), .val (.int 1), .val (.int 0), .val (.ref b1), .val (.ref b8), .val (.ref b15), .unset] [(.int 1), (.ref b8), (.ref w_CHILD_OVERRIDES)])) _
  refine own_ldR X0 hx hZ e0 V_b8 (j := (1 : Int32)) ⟨by decide, by decide⟩ rfl (g := (mkF m 214 #[.val (.int p1), .val (.int p2), .val (.int p3), .val (.int 0), .val (.int 1), .val (.int 0), .val (.ref b1), .val (.ref b8), .val (.ref b15), .unset] [(.int 1), (.ref b8), (.ref w_CHILD_OVERRIDES)])) rfl rfl (hb hby at_214) _ ?_
  show Steps p.tables e below (T0.setTop (mkF m 215 #[.val (.int p1), .val (.int p2), .val (.int p3), .val (.int 0), .val (.int 1), .val (.int 0), .val (.ref b1), .val (.ref b8), .val (.ref b15), .unset] [(.ref w_DENY), (.ref w_CHILD_OVERRIDES)])) _
  refine XS.aload X0.here hx rfl (hb hby at_215) rfl rfl ?_
  show Steps p.tables e below (T0.setTop (mkF m 217 #[.val (.int p1), .val (.int p2), .val (.int p3), .val (.int 0), .val (.int 1), .val (.int 0), .val (.ref b1), .val (.ref b8), .val (.ref b15), .unset] [(.ref b8), (.ref w_DENY), (.ref w_CHILD_OVERRIDES)])) _
  refine XS.iload X0.here hx rfl (hb hby at_217) rfl ?_
  show Steps p.tables e below (T0.setTop (mkF m 219 #[.val (.int p1), .val (.int p2), .val (.int p3), .val (.int 0), .val (.int 1), .val (.int 0), .val (.ref b1), .val (.ref b8), .val (.ref b15), .unset] [(.int 0), (.ref b8), (.ref w_DENY), (.ref w_CHILD_OVERRIDES)])) _
  refine own_ldR X0 hx hZ e0 V_b8 (j := (0 : Int32)) ⟨by decide, by decide⟩ rfl (g := (mkF m 219 #[.val (.int p1), .val (.int p2), .val (.int p3), .val (.int 0), .val (.int 1), .val (.int 0), .val (.ref b1), .val (.ref b8), .val (.ref b15), .unset] [(.int 0), (.ref b8), (.ref w_DENY), (.ref w_CHILD_OVERRIDES)])) rfl rfl (hb hby at_219) _ ?_
  show Steps p.tables e below (T0.setTop (mkF m 220 #[.val (.int p1), .val (.int p2), .val (.int p3), .val (.int 0), .val (.int 1), .val (.int 0), .val (.ref b1), .val (.ref b8), .val (.ref b15), .unset] [(.ref w_PERMIT), (.ref w_DENY), (.ref w_CHILD_OVERRIDES)])) _
  refine st1.trans ?_
  show Steps p.tables e below (T1.setTop (mkF m 223 #[.val (.int p1), .val (.int p2), .val (.int p3), .val (.int 0), .val (.int 1), .val (.int 0), .val (.ref b1), .val (.ref b8), .val (.ref b15), .unset] [(.ref w_PERMIT)])) _
  refine XS.astore X1.here hx rfl (hb hby at_223) rfl rfl (l' := #[.val (.int p1), .val (.int p2), .val (.int p3), .val (.int 0), .val (.int 1), .val (.int 0), .val (.ref b1), .val (.ref b8), .val (.ref b15), .val (.ref w_PERMIT)]) rfl ?_
  show Steps p.tables e below (T1.setTop (mkF m 225 #[.val (.int p1), .val (.int p2), .val (.int p3), .val (.int 0), .val (.int 1), .val (.int 0), .val (.ref b1), .val (.ref b8), .val (.ref b15), .val (.ref w_PERMIT)] [])) _
  refine XS.aload X1.here hx rfl (hb hby at_225) rfl rfl ?_
  show Steps p.tables e below (T1.setTop (mkF m 227 #[.val (.int p1), .val (.int p2), .val (.int p3), .val (.int 0), .val (.int 1), .val (.int 0), .val (.ref b1), .val (.ref b8), .val (.ref b15), .val (.ref w_PERMIT)] [(.ref w_PERMIT)])) _
  refine XS.aload X1.here hx rfl (hb hby at_227) rfl rfl ?_
  show Steps p.tables e below (T1.setTop (mkF m 229 #[.val (.int p1), .val (.int p2), .val (.int p3), .val (.int 0), .val (.int 1), .val (.int 0), .val (.ref b1), .val (.ref b8), .val (.ref b15), .val (.ref w_PERMIT)] [(.ref b8), (.ref w_PERMIT)])) _
  refine XS.aload X1.here hx rfl (hb hby at_229) rfl rfl ?_
  show Steps p.tables e below (T1.setTop (mkF m 231 #[.val (.int p1), .val (.int p2), .val (.int p3), .val (.int 0), .val (.int 1), .val (.int 0), .val (.ref b1), .val (.ref b8), .val (.ref b15), .val (.ref w_PERMIT)] [(.ref b15), (.ref b8), (.ref w_PERMIT)])) _
  refine XS.iloadN X1.here hx rfl (hb hby at_231) rfl ?_
  show Steps p.tables e below (T1.setTop (mkF m 232 #[.val (.int p1), .val (.int p2), .val (.int p3), .val (.int 0), .val (.int 1), .val (.int 0), .val (.ref b1), .val (.ref b8), .val (.ref b15), .val (.ref w_PERMIT)] [(.int 0), (.ref b15), (.ref b8), (.ref w_PERMIT)])) _
  refine XS.bipush X1.here hx rfl (hb hby at_232) ?_
  show Steps p.tables e below (T1.setTop (mkF m 234 #[.val (.int p1), .val (.int p2), .val (.int p3), .val (.int 0), .val (.int 1), .val (.int 0), .val (.ref b1), .val (.ref b8), .val (.ref b15), .val (.ref w_PERMIT)] [(.int 9), (.int 0), (.ref b15), (.ref b8), (.ref w_PERMIT)])) _
  refine XS.imul X1.here hx rfl (hb hby at_234) rfl ?_
  show Steps p.tables e below (T1.setTop (mkF m 235 #[.val (.int p1), .val (.int p2), .val (.int p3), .val (.int 0), .val (.int 1), .val (.int 0), .val (.ref b1), .val (.ref b8), .val (.ref b15), .val (.ref w_PERMIT)] [(.int ((0 : Int32) * (9 : Int32))), (.ref b15), (.ref b8), (.ref w_PERMIT)])) _
  rw [(by decide : ((0 : Int32) * (9 : Int32)) = (0 : Int32))]
  show Steps p.tables e below (T1.setTop (mkF m 235 #[.val (.int p1), .val (.int p2), .val (.int p3), .val (.int 0), .val (.int 1), .val (.int 0), .val (.ref b1), .val (.ref b8), .val (.ref b15), .val (.ref w_PERMIT)] [(.int 0), (.ref b15), (.ref b8), (.ref w_PERMIT)])) _
  refine XS.iload X1.here hx rfl (hb hby at_235) rfl ?_
  show Steps p.tables e below (T1.setTop (mkF m 237 #[.val (.int p1), .val (.int p2), .val (.int p3), .val (.int 0), .val (.int 1), .val (.int 0), .val (.ref b1), .val (.ref b8), .val (.ref b15), .val (.ref w_PERMIT)] [(.int 1), (.int 0), (.ref b15), (.ref b8), (.ref w_PERMIT)])) _
  refine XS.iconst X1.here hx rfl (hb hby at_237) ?_
  show Steps p.tables e below (T1.setTop (mkF m 238 #[.val (.int p1), .val (.int p2), .val (.int p3), .val (.int 0), .val (.int 1), .val (.int 0), .val (.ref b1), .val (.ref b8), .val (.ref b15), .val (.ref w_PERMIT)] [(.int 3), (.int 1), (.int 0), (.ref b15), (.ref b8), (.ref w_PERMIT)])) _
  refine XS.imul X1.here hx rfl (hb hby at_238) rfl ?_
  show Steps p.tables e below (T1.setTop (mkF m 239 #[.val (.int p1), .val (.int p2), .val (.int p3), .val (.int 0), .val (.int 1), .val (.int 0), .val (.ref b1), .val (.ref b8), .val (.ref b15), .val (.ref w_PERMIT)] [(.int ((1 : Int32) * (3 : Int32))), (.int 0), (.ref b15), (.ref b8), (.ref w_PERMIT)])) _
  rw [(by decide : ((1 : Int32) * (3 : Int32)) = (3 : Int32))]
  show Steps p.tables e below (T1.setTop (mkF m 239 #[.val (.int p1), .val (.int p2), .val (.int p3), .val (.int 0), .val (.int 1), .val (.int 0), .val (.ref b1), .val (.ref b8), .val (.ref b15), .val (.ref w_PERMIT)] [(.int 3), (.int 0), (.ref b15), (.ref b8), (.ref w_PERMIT)])) _
  refine XS.iadd X1.here hx rfl (hb hby at_239) rfl ?_
  show Steps p.tables e below (T1.setTop (mkF m 240 #[.val (.int p1), .val (.int p2), .val (.int p3), .val (.int 0), .val (.int 1), .val (.int 0), .val (.ref b1), .val (.ref b8), .val (.ref b15), .val (.ref w_PERMIT)] [(.int ((0 : Int32) + (3 : Int32))), (.ref b15), (.ref b8), (.ref w_PERMIT)])) _
  rw [(by decide : ((0 : Int32) + (3 : Int32)) = (3 : Int32))]
  show Steps p.tables e below (T1.setTop (mkF m 240 #[.val (.int p1), .val (.int p2), .val (.int p3), .val (.int 0), .val (.int 1), .val (.int 0), .val (.ref b1), .val (.ref b8), .val (.ref b15), .val (.ref w_PERMIT)] [(.int 3), (.ref b15), (.ref b8), (.ref w_PERMIT)])) _
  refine XS.iload X1.here hx rfl (hb hby at_240) rfl ?_
  show Steps p.tables e below (T1.setTop (mkF m 242 #[.val (.int p1), .val (.int p2), .val (.int p3), .val (.int 0), .val (.int 1), .val (.int 0), .val (.ref b1), .val (.ref b8), .val (.ref b15), .val (.ref w_PERMIT)] [(.int 0), (.int 3), (.ref b15), (.ref b8), (.ref w_PERMIT)])) _
  refine XS.iadd X1.here hx rfl (hb hby at_242) rfl ?_
  show Steps p.tables e below (T1.setTop (mkF m 243 #[.val (.int p1), .val (.int p2), .val (.int p3), .val (.int 0), .val (.int 1), .val (.int 0), .val (.ref b1), .val (.ref b8), .val (.ref b15), .val (.ref w_PERMIT)] [(.int ((3 : Int32) + (0 : Int32))), (.ref b15), (.ref b8), (.ref w_PERMIT)])) _
  rw [(by decide : ((3 : Int32) + (0 : Int32)) = (3 : Int32))]
  show Steps p.tables e below (T1.setTop (mkF m 243 #[.val (.int p1), .val (.int p2), .val (.int p3), .val (.int 0), .val (.int 1), .val (.int 0), .val (.ref b1), .val (.ref b8), .val (.ref b15), .val (.ref w_PERMIT)] [(.int 3), (.ref b15), (.ref b8), (.ref w_PERMIT)])) _
  refine own_ldI X1 hx hZ e1 V_b15 (j := (3 : Int32)) ⟨by decide, by decide⟩ rfl (g := (mkF m 243 #[.val (.int p1), .val (.int p2), .val (.int p3), .val (.int 0), .val (.int 1), .val (.int 0), .val (.ref b1), .val (.ref b8), .val (.ref b15), .val (.ref w_PERMIT)] [(.int 3), (.ref b15), (.ref b8), (.ref w_PERMIT)])) rfl rfl (hb hby at_243) _ ?_
  show Steps p.tables e below (T1.setTop (mkF m 244 #[.val (.int p1), .val (.int p2), .val (.int p3), .val (.int 0), .val (.int 1), .val (.int 0), .val (.ref b1), .val (.ref b8), .val (.ref b15), .val (.ref w_PERMIT)] [(.int 0), (.ref b8), (.ref w_PERMIT)])) _
  refine own_ldR X1 hx hZ e1 V_b8 (j := (0 : Int32)) ⟨by decide, by decide⟩ rfl (g := (mkF m 244 #[.val (.int p1), .val (.int p2), .val (.int p3), .val (.int 0), .val (.int 1), .val (.int 0), .val (.ref b1), .val (.ref b8), .val (.ref b15), .val (.ref w_PERMIT)] [(.int 0), (.ref b8), (.ref w_PERMIT)])) rfl rfl (hb hby at_244) _ ?_
  show Steps p.tables e below (T1.setTop (mkF m 245 #[.val (.int p1), .val (.int p2), .val (.int p3), .val (.int 0), .val (.int 1), .val (.int 0), .val (.ref b1), .val (.ref b8), .val (.ref b15), .val (.ref w_PERMIT)] [(.ref w_PERMIT), (.ref w_PERMIT)])) _
  refine Jvm.RoadKit.acmp (g := (mkF m 245 #[.val (.int p1), .val (.int p2), .val (.int p3), .val (.int 0), .val (.int 1), .val (.int 0), .val (.ref b1), .val (.ref b8), .val (.ref b15), .val (.ref w_PERMIT)] [(.ref w_PERMIT), (.ref w_PERMIT)])) X1 hx rfl rfl rfl (pc0 := 245) (pc' := 248) (same := true) rfl (hb hby at_245) rfl (decide_eq_true rfl) (by decide) (by decide) ?_
  show Steps p.tables e below (T1.setTop (mkF m 248 #[.val (.int p1), .val (.int p2), .val (.int p3), .val (.int 0), .val (.int 1), .val (.int 0), .val (.ref b1), .val (.ref b8), .val (.ref b15), .val (.ref w_PERMIT)] [])) _
  refine XS.iconst X1.here hx rfl (hb hby at_248) ?_
  show Steps p.tables e below (T1.setTop (mkF m 249 #[.val (.int p1), .val (.int p2), .val (.int p3), .val (.int 0), .val (.int 1), .val (.int 0), .val (.ref b1), .val (.ref b8), .val (.ref b15), .val (.ref w_PERMIT)] [(.int 1)])) _
  refine XS.goto X1.here hx rfl (pc0 := 249) (pc' := 253) rfl (hb hby at_249) (by decide) (by decide) ?_
  show Steps p.tables e below (T1.setTop (mkF m 253 #[.val (.int p1), .val (.int p2), .val (.int p3), .val (.int 0), .val (.int 1), .val (.int 0), .val (.ref b1), .val (.ref b8), .val (.ref b15), .val (.ref w_PERMIT)] [(.int 1)])) _
  exact kt
def Q1_w_CHILD_OVERRIDES_w_DENY_w_DENY (Z : State) (w_CHILD_OVERRIDES : Addr) (w_DENY : Addr) (w_INDETERMINATE : Addr) (h0 : Heap) (n0 : Nat) (v : Option Value) (h : Heap) (L : List Loc) : Prop := v = some (.ref w_DENY) ∧ Fr n0 L ∧ h = h0
set_option maxRecDepth 65536 in
set_option maxHeartbeats 40000000 in
theorem rm1_w_CHILD_OVERRIDES_w_DENY_w_DENY (l : Launch) (Z : State) (a0 : Array Value) (hw : ∀ d ∈ tables_1, d.before a0 Z = true) (ws : List Jvm.Cond) (w_CHILD_OVERRIDES : Addr) (w_DENY : Addr) (w_INDETERMINATE : Addr) (h0 : Heap) (n0 : Nat) (Z0 : n0 ≤ h0.size) (F_ordinal_w_CHILD_OVERRIDES : Fld Z h0 w_CHILD_OVERRIDES "java/lang/Enum" "ordinal" "I" (.int 0)) (E_w_CHILD_OVERRIDES : Exa Z h0 w_CHILD_OVERRIDES "com/example/tributary/tributary/AccessList$InheritanceType") (S_INDETERMINATE : Sta Z h0 "com/example/tributary/tributary/AccessList$Decision" "INDETERMINATE" "Lcom/example/tributary/tributary/AccessList$Decision;" (.ref w_INDETERMINATE)) (n_w_DENY_w_INDETERMINATE : ¬ (w_DENY = w_INDETERMINATE)) :
    MetFree l (⟨"com/example/tributary/tributary/AccessList$InheritanceType", "combine", "(Lcom/example/tributary/tributary/AccessList$Decision;Lcom/example/tributary/tributary/AccessList$Decision;)Lcom/example/tributary/tributary/AccessList$Decision;"⟩ : MethodName) (head1 (Jvm.Cond.code (⟨"com/example/tributary/tributary/AccessList$InheritanceType", "combine", "(Lcom/example/tributary/tributary/AccessList$Decision;Lcom/example/tributary/tributary/AccessList$Decision;)Lcom/example/tributary/tributary/AccessList$Decision;"⟩ : MethodName) prog_6_method_4_code 3 (some (.object "com/example/tributary/tributary/AccessList$Decision")) :: ws) ({ frames := 1, cells := 0, slots := 0, locals := 12 } : Room)) (fun a U => a = #[(.ref w_CHILD_OVERRIDES), (.ref w_DENY), (.ref w_DENY)] ∧ Z.Warmed39 U.vm ∧ U.heap = h0) (fun _ _ _ _ _ => True) (fun _ U o U' => ∃ v L, o = .returned v ∧ Q1_w_CHILD_OVERRIDES_w_DENY_w_DENY Z w_CHILD_OVERRIDES w_DENY w_INDETERMINATE h0 n0 v U'.heap L ∧ FrameEnd U o U' L ({ frames := 1, cells := 0, slots := 0, locals := 12 } : Room).cells ({ frames := 1, cells := 0, slots := 0, locals := 12 } : Room).slots) := by
  refine MetFree.of_bodySF (plainFor_of_name pn_1) hisR ?_
  intro p e s m args below meth c s₁ Bd hml0 hP hK
  obtain ⟨rfl, hZ, hh⟩ := hP
  have hx := Bd.exec
  have hby := Bd.bytes
  have hml : c.maxLocals = 3 := hml0
  have hown : s.vm.findClass "com/example/tributary/tributary/AccessList$InheritanceType" = some m.cls := findClass_of_methodNamed Bd.named
  have hnm := (name_of_methodNamed Bd.named Bd.method).1
  have X0 : Stand p l e ({ frames := 1, cells := 0, slots := 0, locals := 12 } : Room) s m #[(.ref w_CHILD_OVERRIDES), (.ref w_DENY), (.ref w_DENY)] below meth c s₁ [] 0 0 := Stand.of_body Bd
  have e0 : s₁.heap = h0 := by rw [← hh, Bd.state]; rfl
  have N0 := Fr.nil n0
  have pre0 : ∀ t, Steps p.tables e below (s₁.setTop (mkF m 0 #[.val (.ref w_CHILD_OVERRIDES), .val (.ref w_DENY), .val (.ref w_DENY)] [])) t → Steps p.tables e below (s₁.setTop (entryFrame m #[(.ref w_CHILD_OVERRIDES), (.ref w_DENY), (.ref w_DENY)] 3)) t := fun t k => castTop (by first | (simp [entryFrame, mkF, argsToLocals, Value.category]; done) | rfl) k
  obtain ⟨cq1, kq1, q1a, q1b, q1c⟩ := isOf hZ e0 E_w_CHILD_OVERRIDES
  obtain ⟨_, _, ⟨T1, L1, k1, n1⟩, -, X1, ⟨Lc1, hQ1, l1, y1, z1⟩, st1⟩ := X0.virtualBackUp hx (x := (⟨"com/example/tributary/tributary/AccessList$InheritanceType", "ordinal", "()I"⟩ : MethodName)) (y := (⟨"java/lang/Enum", "ordinal", "()I"⟩ : MethodName)) (owner := "java/lang/Enum") hown (mvT hZ (hw _ (List.mem_of_getElem? (i := 27) rfl))) (mvT hZ (hw _ (List.mem_of_getElem? (i := 28) rfl))) (mvT hZ (hw _ (List.mem_of_getElem? (i := 29) rfl))) (by decide) (mvT hZ (hw _ (List.mem_of_getElem? (i := 31) rfl))) (mvT hZ (hw _ (List.mem_of_getElem? (i := 30) rfl))) (backOf (W := 0) (rm2_w_CHILD_OVERRIDES l Z a0 hw [] w_CHILD_OVERRIDES h0 n0 Z0 F_ordinal_w_CHILD_OVERRIDES) hZ (hw _ (List.mem_of_getElem? (i := 33) rfl)) (hw _ (List.mem_of_getElem? (i := 32) rfl)) (by decide) (by decide)) q1a q1c (g := (mkF m 1 #[.val (.ref w_CHILD_OVERRIDES), .val (.ref w_DENY), .val (.ref w_DENY)] [(.ref w_CHILD_OVERRIDES)])) rfl (by rw [hml]; rfl) (Steps.refl _) (argsL := []) (rest := []) (lenOf pd___I rfl) rfl (by show 2 * 0 + _ ≤ _; exact Nat.le_of_eq rfl) (hb hby d1_1) (fun _ _ => ⟨rfl, e0, (by decide : 0 + 0 ≤ _), (by decide : 0 + 0 ≤ _)⟩)
  dsimp only [Pt.U, Pt.locs, Pt.cells, Pt.slots] at X1 l1 y1 z1 st1 hQ1
  subst l1 y1 z1
  obtain ⟨rfl, N1q, e1⟩ := hQ1
  have N1 := Fr.app N0 N1q
  obtain ⟨T2, X2, e2, st2⟩ := getS2 X1 hx hZ hown (host := "") (Or.inl (hw _ (List.mem_of_getElem? (i := 36) rfl))) Via.refl e1 S_INDETERMINATE (g := (mkF m 47 #[.val (.ref w_CHILD_OVERRIDES), .val (.ref w_DENY), .val (.ref w_DENY)] [(.ref w_DENY)])) rfl (hb hby d1_47)
  obtain ⟨fs, hr, hrun, hended, hW, hsame⟩ := X2.leave (v := some (.ref w_DENY)) (fun h => by rw [Bd.returns] at h; cases h)
  refine ⟨_, _, pre0 _ ?_, hrun, hended, _, _, rfl, ?_, ⟨_, rfl⟩, hW, hsame.mono (by decide) (by decide)⟩
  · show Steps p.tables e below (s₁.setTop (mkF m 0 #[.val (.ref w_CHILD_OVERRIDES), .val (.ref w_DENY), .val (.ref w_DENY)] [])) _
    refine XS.aloadN X0.here hx rfl (hb hby d1_0) rfl rfl ?_
    show Steps p.tables e below (s₁.setTop (mkF m 1 #[.val (.ref w_CHILD_OVERRIDES), .val (.ref w_DENY), .val (.ref w_DENY)] [(.ref w_CHILD_OVERRIDES)])) _
    refine st1.trans ?_
    show Steps p.tables e below (T1.setTop (mkF m 4 #[.val (.ref w_CHILD_OVERRIDES), .val (.ref w_DENY), .val (.ref w_DENY)] [(.int 0)])) _
    refine XS.tswIn X1.here hx rfl (pc0 := 4) (pc' := 46) rfl (hb hby d1_4) rfl (by decide) (o := 42) (by decide) (by decide) (by decide) ?_
    show Steps p.tables e below (T1.setTop (mkF m 46 #[.val (.ref w_CHILD_OVERRIDES), .val (.ref w_DENY), .val (.ref w_DENY)] [])) _
    refine XS.aloadN X1.here hx rfl (hb hby d1_46) rfl rfl ?_
    show Steps p.tables e below (T1.setTop (mkF m 47 #[.val (.ref w_CHILD_OVERRIDES), .val (.ref w_DENY), .val (.ref w_DENY)] [(.ref w_DENY)])) _
    refine st2 _ ?_
    show Steps p.tables e below (T2.setTop (mkF m 50 #[.val (.ref w_CHILD_OVERRIDES), .val (.ref w_DENY), .val (.ref w_DENY)] [(.ref w_INDETERMINATE), (.ref w_DENY)])) _
    refine Jvm.RoadKit.acmp (g := (mkF m 50 #[.val (.ref w_CHILD_OVERRIDES), .val (.ref w_DENY), .val (.ref w_DENY)] [(.ref w_INDETERMINATE), (.ref w_DENY)])) X2 hx rfl rfl rfl (pc0 := 50) (pc' := 57) (same := false) rfl (hb hby d1_50) rfl (decide_eq_false fun q => n_w_DENY_w_INDETERMINATE (Value.ref.inj q)) (by decide) (by decide) ?_
    show Steps p.tables e below (T2.setTop (mkF m 57 #[.val (.ref w_CHILD_OVERRIDES), .val (.ref w_DENY), .val (.ref w_DENY)] [])) _
    refine XS.aloadN X2.here hx rfl (hb hby d1_57) rfl rfl ?_
    show Steps p.tables e below (T2.setTop (mkF m 58 #[.val (.ref w_CHILD_OVERRIDES), .val (.ref w_DENY), .val (.ref w_DENY)] [(.ref w_DENY)])) _
    refine XS.goto X2.here hx rfl (pc0 := 58) (pc' := 112) rfl (hb hby d1_58) (by decide) (by decide) ?_
    show Steps p.tables e below (T2.setTop (mkF m 112 #[.val (.ref w_CHILD_OVERRIDES), .val (.ref w_DENY), .val (.ref w_DENY)] [(.ref w_DENY)])) _
    jvm_step X2.here [X2.here.top, hx, (hb hby d1_112), X2.method', Bd.returns, Value.isRef, FieldType.isReference]
    first | (intro acts; rw [hr _ acts rfl rfl rfl]) | rw [hr _ _ rfl rfl rfl]
    exact Steps.refl _
  · show Q1_w_CHILD_OVERRIDES_w_DENY_w_DENY Z w_CHILD_OVERRIDES w_DENY w_INDETERMINATE h0 n0 _ T2.heap _
    rw [e2]
    exact ⟨rfl, N1, rfl⟩
set_option maxRecDepth 65536 in
set_option maxHeartbeats 40000000 in
theorem pc0_k011 {p : Program} {l : Launch} {e : Env} {s : State} {m : MethodId} {args : Array Value} {below : List Frame} {meth : Method} {c : Code} {T0 : State} {locs : List Loc} {Z : State} {a0 : Array Value} {h0 : Heap} {n0 : Nat} (p1 : Int32) (p2 : Int32) (p3 : Int32) (b1 : Addr) (b8 : Addr) (b15 : Addr) (k1 : ClassId) (w_CHILD_OVERRIDES : Addr) (w_PARENT_OVERRIDES : Addr) (w_AND_BOTH_PERMIT : Addr) (k8 : ClassId) (w_PERMIT : Addr) (w_DENY : Addr) (w_INDETERMINATE : Addr) (k15 : ClassId)
    (X0 : Stand p l e room_1 s m args below meth c T0 locs 3 33) (hx : p.tables.exec = Jvm.exec) (hZ : Z.Warmed39 s.vm) (hw : ∀ d ∈ tables_1, d.before a0 Z = true) (hby : c.code = code) (hml : c.maxLocals = 10) (hown : s.vm.findClass "com/example/tributary/tributary/InheritanceTypeCombinePinLaw" = some m.cls) (e0 : T0.heap = h0) (Z0 : n0 ≤ h0.size) (N0 : Fr n0 locs) (V_b1 : Arv Z h0 b1 k1 (.object "com/example/tributary/tributary/AccessList$InheritanceType") (3 : Int32) [(.ref w_CHILD_OVERRIDES), (.ref w_PARENT_OVERRIDES), (.ref w_AND_BOTH_PERMIT)] .null) (V_b8 : Arv Z h0 b8 k8 (.object "com/example/tributary/tributary/AccessList$Decision") (3 : Int32) [(.ref w_PERMIT), (.ref w_DENY), (.ref w_INDETERMINATE)] .null) (F_ordinal_w_CHILD_OVERRIDES : Fld Z h0 w_CHILD_OVERRIDES "java/lang/Enum" "ordinal" "I" (.int 0)) (E_w_CHILD_OVERRIDES : Exa Z h0 w_CHILD_OVERRIDES "com/example/tributary/tributary/AccessList$InheritanceType") (S_INDETERMINATE : Sta Z h0 "com/example/tributary/tributary/AccessList$Decision" "INDETERMINATE" "Lcom/example/tributary/tributary/AccessList$Decision;" (.ref w_INDETERMINATE)) (n_w_DENY_w_INDETERMINATE : ¬ (w_DENY = w_INDETERMINATE)) (V_b15 : Arv Z h0 b15 k15 .int (27 : Int32) [(.int 0), (.int 1), (.int 0), (.int 0), (.int 1), (.int 1), (.int 0), (.int 1), (.int 2), (.int 0), (.int 0), (.int 0), (.int 1), (.int 1), (.int 1), (.int 0), (.int 1), (.int 2), (.int 0), (.int 1), (.int 1), (.int 1), (.int 1), (.int 1), (.int 1), (.int 1), (.int 1)] (.int (0 : Int32))) :
    ∃ (T' : State) (L' : List Loc) (Ls : Array Slot), Stand p l e room_1 s m args below meth c T' L' 3 33 ∧ Fr n0 L' ∧ ∀ target, Steps p.tables e below (T'.setTop (mkF m 253 Ls [(.int 1)])) target → Steps p.tables e below (T0.setTop (mkF m 206 #[.val (.int p1), .val (.int p2), .val (.int p3), .val (.int 0), .val (.int 1), .val (.int 1), .val (.ref b1), .val (.ref b8), .val (.ref b15), .unset] [])) target := by
  obtain ⟨cq1, kq1, q1a, q1b, q1c⟩ := isOf hZ e0 E_w_CHILD_OVERRIDES
  obtain ⟨_, _, ⟨T1, L1, k1, n1⟩, -, X1, ⟨Lc1, hQ1, l1, y1, z1⟩, st1⟩ := X0.virtualBack hx (y := (⟨"com/example/tributary/tributary/AccessList$InheritanceType", "combine", "(Lcom/example/tributary/tributary/AccessList$Decision;Lcom/example/tributary/tributary/AccessList$Decision;)Lcom/example/tributary/tributary/AccessList$Decision;"⟩ : MethodName)) (z := (⟨"com/example/tributary/tributary/AccessList$InheritanceType", "combine", "(Lcom/example/tributary/tributary/AccessList$Decision;Lcom/example/tributary/tributary/AccessList$Decision;)Lcom/example/tributary/tributary/AccessList$Decision;"⟩ : MethodName)) hown (mvT hZ (hw _ (List.mem_of_getElem? (i := 22) rfl))) (mvT hZ (hw _ (List.mem_of_getElem? (i := 23) rfl))) (notFace_of_selects (args := #[]) (mvT hZ (hw _ (List.mem_of_getElem? (i := 25) rfl)))) (mvT hZ (hw _ (List.mem_of_getElem? (i := 25) rfl))) (mvT hZ (hw _ (List.mem_of_getElem? (i := 24) rfl))) (by decide) (backOf (W := 0) (rm1_w_CHILD_OVERRIDES_w_DENY_w_DENY l Z a0 hw [] w_CHILD_OVERRIDES w_DENY w_INDETERMINATE h0 n0 Z0 F_ordinal_w_CHILD_OVERRIDES E_w_CHILD_OVERRIDES S_INDETERMINATE n_w_DENY_w_INDETERMINATE) hZ (hw _ (List.mem_of_getElem? (i := 26) rfl)) (hw _ (List.mem_of_getElem? (i := 4) rfl)) (by decide) (by decide)) q1a q1c (g := (mkF m 220 #[.val (.int p1), .val (.int p2), .val (.int p3), .val (.int 0), .val (.int 1), .val (.int 1), .val (.ref b1), .val (.ref b8), .val (.ref b15), .unset] [(.ref w_DENY), (.ref w_DENY), (.ref w_CHILD_OVERRIDES)])) rfl (by rw [hml]; rfl) (Steps.refl _) (argsL := [(.ref w_DENY), (.ref w_DENY)]) (rest := []) (lenOf pd__Lcom_example_tributary_tributary_AccessList_Decision_Lcom_example_tributary_tributary_AccessList_Decision__Lcom_example_tributary_tributary_AccessList_Decision_ rfl) rfl (by show 2 * 0 + _ ≤ _; exact Nat.le_of_eq rfl) (hb hby at_220) (fun _ _ => ⟨rfl, e0, (by decide : 3 + 0 ≤ _), (by decide : 33 + 0 ≤ _)⟩)
  dsimp only [Pt.U, Pt.locs, Pt.cells, Pt.slots] at X1 l1 y1 z1 st1 hQ1
  subst l1 y1 z1
  obtain ⟨rfl, N1q, e1⟩ := hQ1
  have N1 := Fr.app N0 N1q
  refine ⟨T1, _, #[.val (.int p1), .val (.int p2), .val (.int p3), .val (.int 0), .val (.int 1), .val (.int 1), .val (.ref b1), .val (.ref b8), .val (.ref b15), .val (.ref w_DENY)], X1, N1, fun target kt => ?_⟩
  show Steps p.tables e below (T0.setTop (mkF m 206 #[.val (.int p1), .val (.int p2), .val (.int p3), .val (.int 0), .val (.int 1), .val (.int 1), .val (.ref b1), .val (.ref b8), .val (.ref b15), .unset] [])) _
  refine XS.aload X0.here hx rfl (hb hby at_206) rfl rfl ?_
  show Steps p.tables e below (T0.setTop (mkF m 208 #[.val (.int p1), .val (.int p2), .val (.int p3), .val (.int 0), .val (.int 1), .val (.int 1), .val (.ref b1), .val (.ref b8), .val (.ref b15), .unset] [(.ref b1)])) _
  refine XS.iloadN X0.here hx rfl (hb hby at_208) rfl ?_
  show Steps p.tables e below (T0.setTop (mkF m 209 #[.val (.int p1), .val (.int p2), .val (.int p3), .val (.int 0), .val (.int 1), .val (.int 1), .val (.ref b1), .val (.ref b8), .val (.ref b15), .unset] [(.int 0), (.ref b1)])) _
  refine own_ldR X0 hx hZ e0 V_b1 (j := (0 : Int32)) ⟨by decide, by decide⟩ rfl (g := (mkF m 209 #[.val (.int p1), .val (.int p2), .val (.int p3), .val (.int 0), .val (.int 1), .val (.int 1), .val (.ref b1), .val (.ref b8), .val (.ref b15), .unset] [(.int 0), (.ref b1)])) rfl rfl (hb hby at_209) _ ?_
  show Steps p.tables e below (T0.setTop (mkF m 210 #[.val (.int p1), .val (.int p2), .val (.int p3), .val (.int 0), .val (.int 1), .val (.int 1), .val (.ref b1), .val (.ref b8), .val (.ref b15), .unset] [(.ref w_CHILD_OVERRIDES)])) _
  refine XS.aload X0.here hx rfl (hb hby at_210) rfl rfl ?_
  show Steps p.tables e below (T0.setTop (mkF m 212 #[.val (.int p1), .val (.int p2), .val (.int p3), .val (.int 0), .val (.int 1), .val (.int 1), .val (.ref b1), .val (.ref b8), .val (.ref b15), .unset] [(.ref b8), (.ref w_CHILD_OVERRIDES)])) _
  refine XS.iload X0.here hx rfl (hb hby at_212) rfl ?_
  show Steps p.tables e below (T0.setTop (mkF m 214 #[.val (.int p1), .val (.int p2), .val (.int p3), .val (.int 0), .val (.int 1), .val (.int 1), .val (.ref b1), .val (.ref b8), .val (.ref b15), .unset] [(.int 1), (.ref b8), (.ref w_CHILD_OVERRIDES)])) _
  refine own_ldR X0 hx hZ e0 V_b8 (j := (1 : Int32)) ⟨by decide, by decide⟩ rfl (g := (mkF m 214 #[.val (.int p1), .val (.int p2), .val (.int p3), .val (.int 0), .val (.int 1), .val (.int 1), .val (.ref b1), .val (.ref b8), .val (.ref b15), .unset] [(.int 1), (.ref b8), (.ref w_CHILD_OVERRIDES)])) rfl rfl (hb hby at_214) _ ?_
  show Steps p.tables e below (T0.setTop (mkF m 215 #[.val (.int p1), .val (.int p2), .val (.int p3), .val (.int 0), .val (.int 1), .val (.int 1), .val (.ref b1), .val (.ref b8), .val (.ref b15), .unset] [(.ref w_DENY), (.ref w_CHILD_OVERRIDES)])) _
  refine XS.aload X0.here hx rfl (hb hby at_215) rfl rfl ?_
  show Steps p.tables e below (T0.setTop (mkF m 217 #[.val (.int p1), .val (.int p2), .val (.int p3), .val (.int 0), .val (.int 1), .val (.int 1), .val (.ref b1), .val (.ref b8), .val (.ref b15), .unset] [(.ref b8), (.ref w_DENY), (.ref w_CHILD_OVERRIDES)])) _
  refine XS.iload X0.here hx rfl (hb hby at_217) rfl ?_
  show Steps p.tables e below (T0.setTop (mkF m 219 #[.val (.int p1), .val (.int p2), .val (.int p3), .val (.int 0), .val (.int 1), .val (.int 1), .val (.ref b1), .val (.ref b8), .val (.ref b15), .unset] [(.int 1), (.ref b8), (.ref w_DENY), (.ref w_CHILD_OVERRIDES)])) _
  refine own_ldR X0 hx hZ e0 V_b8 (j := (1 : Int32)) ⟨by decide, by decide⟩ rfl (g := (mkF m 219 #[.val (.int p1), .val (.int p2), .val (.int p3), .val (.int 0), .val (.int 1), .val (.int 1), .val (.ref b1), .val (.ref b8), .val (.ref b15), .unset] [(.int 1), (.ref b8), (.ref w_DENY), (.ref w_CHILD_OVERRIDES)])) rfl rfl (hb hby at_219) _ ?_
  show Steps p.tables e below (T0.setTop (mkF m 220 #[.val (.int p1), .val (.int p2), .val (.int p3), .val (.int 0), .val (.int 1), .val (.int 1), .val (.ref b1), .val (.ref b8), .val (.ref b15), .unset] [(.ref w_DENY), (.ref w_DENY), (.ref w_CHILD_OVERRIDES)])) _
  refine st1.trans ?_
  show Steps p.tables e below (T1.setTop (mkF m 223 #[.val (.int p1), .val (.int p2), .val (.int p3), .val (.int 0), .val (.int 1), .val (.int 1), .val (.ref b1), .val (.ref b8), .val (.ref b15), .unset] [(.ref w_DENY)])) _
  refine XS.astore X1.here hx rfl (hb hby at_223) rfl rfl (l' := #[.val (.int p1), .val (.int p2), .val (.int p3), .val (.int 0), .val (.int 1), .val (.int 1), .val (.ref b1), .val (.ref b8), .val (.ref b15), .val (.ref w_DENY)]) rfl ?_
  show Steps p.tables e below (T1.setTop (mkF m 225 #[.val (.int p1), .val (.int p2), .val (.int p3), .val (.int 0), .val (.int 1), .val (.int 1), .val (.ref b1), .val (.ref b8), .val (.ref b15), .val (.ref w_DENY)] [])) _
  refine XS.aload X1.here hx rfl (hb hby at_225) rfl rfl ?_
  show Steps p.tables e below (T1.setTop (mkF m 227 #[.val (.int p1), .val (.int p2), .val (.int p3), .val (.int 0), .val (.int 1), .val (.int 1), .val (.ref b1), .val (.ref b8), .val (.ref b15), .val (.ref w_DENY)] [(.ref w_DENY)])) _
  refine XS.aload X1.here hx rfl (hb hby at_227) rfl rfl ?_
  show Steps p.tables e below (T1.setTop (mkF m 229 #[.val (.int p1), .val (.int p2), .val (.int p3), .val (.int 0), .val (.int 1), .val (.int 1), .val (.ref b1), .val (.ref b8), .val (.ref b15), .val (.ref w_DENY)] [(.ref b8), (.ref w_DENY)])) _
  refine XS.aload X1.here hx rfl (hb hby at_229) rfl rfl ?_
  show Steps p.tables e below (T1.setTop (mkF m 231 #[.val (.int p1), .val (.int p2), .val (.int p3), .val (.int 0), .val (.int 1), .val (.int 1), .val (.ref b1), .val (.ref b8), .val (.ref b15), .val (.ref w_DENY)] [(.ref b15), (.ref b8), (.ref w_DENY)])) _
  refine XS.iloadN X1.here hx rfl (hb hby at_231) rfl ?_
  show Steps p.tables e below (T1.setTop (mkF m 232 #[.val (.int p1), .val (.int p2), .val (.int p3), .val (.int 0), .val (.int 1), .val (.int 1), .val (.ref b1), .val (.ref b8), .val (.ref b15), .val (.ref w_DENY)] [(.int 0), (.ref b15), (.ref b8), (.ref w_DENY)])) _
  refine XS.bipush X1.here hx rfl (hb hby at_232) ?_
  show Steps p.tables e below (T1.setTop (mkF m 234 #[.val (.int p1), .val (.int p2), .val (.int p3), .val (.int 0), .val (.int 1), .val (.int 1), .val (.ref b1), .val (.ref b8), .val (.ref b15), .val (.ref w_DENY)] [(.int 9), (.int 0), (.ref b15), (.ref b8), (.ref w_DENY)])) _
  refine XS.imul X1.here hx rfl (hb hby at_234) rfl ?_
  show Steps p.tables e below (T1.setTop (mkF m 235 #[.val (.int p1), .val (.int p2), .val (.int p3), .val (.int 0), .val (.int 1), .val (.int 1), .val (.ref b1), .val (.ref b8), .val (.ref b15), .val (.ref w_DENY)] [(.int ((0 : Int32) * (9 : Int32))), (.ref b15), (.ref b8), (.ref w_DENY)])) _
  rw [(by decide : ((0 : Int32) * (9 : Int32)) = (0 : Int32))]
  show Steps p.tables e below (T1.setTop (mkF m 235 #[.val (.int p1), .val (.int p2), .val (.int p3), .val (.int 0), .val (.int 1), .val (.int 1), .val (.ref b1), .val (.ref b8), .val (.ref b15), .val (.ref w_DENY)] [(.int 0), (.ref b15), (.ref b8), (.ref w_DENY)])) _
  refine XS.iload X1.here hx rfl (hb hby at_235) rfl ?_
  show Steps p.tables e below (T1.setTop (mkF m 237 #[.val (.int p1), .val (.int p2), .val (.int p3), .val (.int 0), .val (.int 1), .val (.int 1), .val (.ref b1), .val (.ref b8), .val (.ref b15), .val (.ref w_DENY)] [(.int 1), (.int 0), (.ref b15), (.ref b8), (.ref w_DENY)])) _
  refine XS.iconst X1.here hx rfl (hb hby at_237) ?_
  show Steps p.tables e below (T1.setTop (mkF m 238 #[.val (.int p1), .val (.int p2), .val (.int p3), .val (.int 0), .val (.int 1), .val (.int 1), .val (.ref b1), .val (.ref b8), .val (.ref b15), .val (.ref w_DENY)] [(.int 3), (.int 1), (.int 0), (.ref b15), (.ref b8), (.ref w_DENY)])) _
  refine XS.imul X1.here hx rfl (hb hby at_238) rfl ?_
  show Steps p.tables e below (T1.setTop (mkF m 239 #[.val (.int p1), .val (.int p2), .val (.int p3), .val (.int 0), .val (.int 1), .val (.int 1), .val (.ref b1), .val (.ref b8), .val (.ref b15), .val (.ref w_DENY)] [(.int ((1 : Int32) * (3 : Int32))), (.int 0), (.ref b15), (.ref b8), (.ref w_DENY)])) _
  rw [(by decide : ((1 : Int32) * (3 : Int32)) = (3 : Int32))]
  show Steps p.tables e below (T1.setTop (mkF m 239 #[.val (.int p1), .val (.int p2), .val (.int p3), .val (.int 0), .val (.int 1), .val (.int 1), .val (.ref b1), .val (.ref b8), .val (.ref b15), .val (.ref w_DENY)] [(.int 3), (.int 0), (.ref b15), (.ref b8), (.ref w_DENY)])) _
  refine XS.iadd X1.here hx rfl (hb hby at_239) rfl ?_
  show Steps p.tables e below (T1.setTop (mkF m 240 #[.val (.int p1), .val (.int p2), .val (.int p3), .val (.int 0), .val (.int 1), .val (.int 1), .val (.ref b1), .val (.ref b8), .val (.ref b15), .val (.ref w_DENY)] [(.int ((0 : Int32) + (3 : Int32))), (.ref b15), (.ref b8), (.ref w_DENY)])) _
  rw [(by decide : ((0 : Int32) + (3 : Int32)) = (3 : Int32))]
  show Steps p.tables e below (T1.setTop (mkF m 240 #[.val (.int p1), .val (.int p2), .val (.int p3), .val (.int 0), .val (.int 1), .val (.int 1), .val (.ref b1), .val (.ref b8), .val (.ref b15), .val (.ref w_DENY)] [(.int 3), (.ref b15), (.ref b8), (.ref w_DENY)])) _
  refine XS.iload X1.here hx rfl (hb hby at_240) rfl ?_
  show Steps p.tables e below (T1.setTop (mkF m 242 #[.val (.int p1), .val (.int p2), .val (.int p3), .val (.int 0), .val (.int 1), .val (.int 1), .val (.ref b1), .val (.ref b8), .val (.ref b15), .val (.ref w_DENY)] [(.int 1), (.int 3), (.ref b15), (.ref b8), (.ref w_DENY)])) _
  refine XS.iadd X1.here hx rfl (hb hby at_242) rfl ?_
  show Steps p.tables e below (T1.setTop (mkF m 243 #[.val (.int p1), .val (.int p2), .val (.int p3), .val (.int 0), .val (.int 1), .val (.int 1), .val (.ref b1), .val (.ref b8), .val (.ref b15), .val (.ref w_DENY)] [(.int ((3 : Int32) + (1 : Int32))), (.ref b15), (.ref b8), (.ref w_DENY)])) _
  rw [(by decide : ((3 : Int32) + (1 : Int32)) = (4 : Int32))]
  show Steps p.tables e below (T1.setTop (mkF m 243 #[.val (.int p1), .val (.int p2), .val (.int p3), .val (.int 0), .val (.int 1), .val (.int 1), .val (.ref b1), .val (.ref b8), .val (.ref b15), .val (.ref w_DENY)] [(.int 4), (.ref b15), (.ref b8), (.ref w_DENY)])) _
  refine own_ldI X1 hx hZ e1 V_b15 (j := (4 : Int32)) ⟨by decide, by decide⟩ rfl (g := (mkF m 243 #[.val (.int p1), .val (.int p2), .val (.int p3), .val (.int 0), .val (.int 1), .val (.int 1), .val (.ref b1), .val (.ref b8), .val (.ref b15), .val (.ref w_DENY)] [(.int 4), (.ref b15), (.ref b8), (.ref w_DENY)])) rfl rfl (hb hby at_243) _ ?_
  show Steps p.tables e below (T1.setTop (mkF m 244 #[.val (.int p1), .val (.int p2), .val (.int p3), .val (.int 0), .val (.int 1), .val (.int 1), .val (.ref b1), .val (.ref b8), .val (.ref b15), .val (.ref w_DENY)] [(.int 1), (.ref b8), (.ref w_DENY)])) _
  refine own_ldR X1 hx hZ e1 V_b8 (j := (1 : Int32)) ⟨by decide, by decide⟩ rfl (g := (mkF m 244 #[.val (.int p1), .val (.int p2), .val (.int p3), .val (.int 0), .val (.int 1), .val (.int 1), .val (.ref b1), .val (.ref b8), .val (.ref b15), .val (.ref w_DENY)] [(.int 1), (.ref b8), (.ref w_DENY)])) rfl rfl (hb hby at_244) _ ?_
  show Steps p.tables e below (T1.setTop (mkF m 245 #[.val (.int p1), .val (.int p2), .val (.int p3), .val (.int 0), .val (.int 1), .val (.int 1), .val (.ref b1), .val (.ref b8), .val (.ref b15), .val (.ref w_DENY)] [(.ref w_DENY), (.ref w_DENY)])) _
  refine Jvm.RoadKit.acmp (g := (mkF m 245 #[.val (.int p1), .val (.int p2), .val (.int p3), .val (.int 0), .val (.int 1), .val (.int 1), .val (.ref b1), .val (.ref b8), .val (.ref b15), .val (.ref w_DENY)] [(.ref w_DENY), (.ref w_DENY)])) X1 hx rfl rfl rfl (pc0 := 245) (pc' := 248) (same := true) rfl (hb hby at_245) rfl (decide_eq_true rfl) (by decide) (by decide) ?_
  show Steps p.tables e below (T1.setTop (mkF m 248 #[.val (.int p1), .val (.int p2), .val (.int p3), .val (.int 0), .val (.int 1), .val (.int 1), .val (.ref b1), .val (.ref b8), .val (.ref b15), .val (.ref w_DENY)] [])) _
  refine XS.iconst X1.here hx rfl (hb hby at_248) ?_
  show Steps p.tables e below (T1.setTop (mkF m 249 #[.val (.int p1), .val (.int p2), .val (.int p3), .val (.int 0), .val (.int 1), .val (.int 1), .val (.ref b1), .val (.ref b8), .val (.ref b15), .val (.ref w_DENY)] [(.int 1)])) _
  refine XS.goto X1.here hx rfl (pc0 := 249) (pc' := 253) rfl (hb hby at_249) (by decide) (by decide) ?_
  show Steps p.tables e below (T1.setTop (mkF m 253 #[.val (.int p1), .val (.int p2), .val (.int p3), .val (.int 0), .val (.int 1), .val (.int 1), .val (.ref b1), .val (.ref b8), .val (.ref b15), .val (.ref w_DENY)] [(.int 1)])) _
  exact kt
def Q1_w_CHILD_OVERRIDES_w_DENY_w_INDETERMINATE (Z : State) (w_CHILD_OVERRIDES : Addr) (w_DENY : Addr) (w_INDETERMINATE : Addr) (h0 : Heap) (n0 : Nat) (v : Option Value) (h : Heap) (L : List Loc) : Prop := v = some (.ref w_DENY) ∧ Fr n0 L ∧ h = h0
set_option maxRecDepth 65536 in
set_option maxHeartbeats 40000000 in
theorem rm1_w_CHILD_OVERRIDES_w_DENY_w_INDETERMINATE (l : Launch) (Z : State) (a0 : Array Value) (hw : ∀ d ∈ tables_1, d.before a0 Z = true) (ws : List Jvm.Cond) (w_CHILD_OVERRIDES : Addr) (w_DENY : Addr) (w_INDETERMINATE : Addr) (h0 : Heap) (n0 : Nat) (Z0 : n0 ≤ h0.size) (F_ordinal_w_CHILD_OVERRIDES : Fld Z h0 w_CHILD_OVERRIDES "java/lang/Enum" "ordinal" "I" (.int 0)) (E_w_CHILD_OVERRIDES : Exa Z h0 w_CHILD_OVERRIDES "com/example/tributary/tributary/AccessList$InheritanceType") (S_INDETERMINATE : Sta Z h0 "com/example/tributary/tributary/AccessList$Decision" "INDETERMINATE" "Lcom/example/tributary/tributary/AccessList$Decision;" (.ref w_INDETERMINATE)) :
    MetFree l (⟨"com/example/tributary/tributary/AccessList$InheritanceType", "combine", "(Lcom/example/tributary/tributary/AccessList$Decision;Lcom/example/tributary/tributary/AccessList$Decision;)Lcom/example/tributary/tributary/AccessList$Decision;"⟩ : MethodName) (head1 (Jvm.Cond.code (⟨"com/example/tributary/tributary/AccessList$InheritanceType", "combine", "(Lcom/example/tributary/tributary/AccessList$Decision;Lcom/example/tributary/tributary/AccessList$Decision;)Lcom/example/tributary/tributary/AccessList$Decision;"⟩ : MethodName) prog_6_method_4_code 3 (some (.object "com/example/tributary/tributary/AccessList$Decision")) :: ws) ({ frames := 1, cells := 0, slots := 0, locals := 12 } : Room)) (fun a U => a = #[(.ref w_CHILD_OVERRIDES), (.ref w_DENY), (.ref w_INDETERMINATE)] ∧ Z.Warmed39 U.vm ∧ U.heap = h0) (fun _ _ _ _ _ => True) (fun _ U o U' => ∃ v L, o = .returned v ∧ Q1_w_CHILD_OVERRIDES_w_DENY_w_INDETERMINATE Z w_CHILD_OVERRIDES w_DENY w_INDETERMINATE h0 n0 v U'.heap L ∧ FrameEnd U o U' L ({ frames := 1, cells := 0, slots := 0, locals := 12 } : Room).cells ({ frames := 1, cells := 0, slots := 0, locals := 12 } : Room).slots) := by
  refine MetFree.of_bodySF (plainFor_of_name pn_1) hisR ?_
  intro p e s m args below meth c s₁ Bd hml0 hP hK
  obtain ⟨rfl, hZ, hh⟩ := hP
  have hx := Bd.exec
  have hby := Bd.bytes
  have hml : c.maxLocals = 3 := hml0
  have hown : s.vm.findClass "com/example/tributary/tributary/AccessList$InheritanceType" = some m.cls := findClass_of_methodNamed Bd.named
  have hnm := (name_of_methodNamed Bd.named Bd.method).1
  have X0 : Stand p l e ({ frames := 1, cells := 0, slots := 0, locals := 12 } : Room) s m #[(.ref w_CHILD_OVERRIDES), (.ref w_DENY), (.ref w_INDETERMINATE)] below meth c s₁ [] 0 0 := Stand.of_body Bd
  have e0 : s₁.heap = h0 := by rw [← hh, Bd.state]; rfl
  have N0 := Fr.nil n0
  have pre0 : ∀ t, Steps p.tables e below (s₁.setTop (mkF m 0 #[.val (.ref w_CHILD_OVERRIDES), .val (.ref w_DENY), .val (.ref w_INDETERMINATE)] [])) t → Steps p.tables e below (s₁.setTop (entryFrame m #[(.ref w_CHILD_OVERRIDES), (.ref w_DENY), (.ref w_INDETERMINATE)] 3)) t := fun t k => castTop (by first | (simp [entryFrame, mkF, argsToLocals, Value.category]; done) | rfl) k
  obtain ⟨cq1, kq1, q1a, q1b, q1c⟩ := isOf hZ e0 E_w_CHILD_OVERRIDES
  obtain ⟨_, _, ⟨T1, L1, k1, n1⟩, -, X1, ⟨Lc1, hQ1, l1, y1, z1⟩, st1⟩ := X0.virtualBackUp hx (x := (⟨"com/example/tributary/tributary/AccessList$InheritanceType", "ordinal", "()I"⟩ : MethodName)) (y := (⟨"java/lang/Enum", "ordinal", "()I"⟩ : MethodName)) (owner := "java/lang/Enum") hown (mvT hZ (hw _ (List.mem_of_getElem? (i := 27) rfl))) (mvT hZ (hw _ (List.mem_of_getElem? (i := 28) rfl))) (mvT hZ (hw _ (List.mem_of_getElem? (i := 29) rfl))) (by decide) (mvT hZ (hw _ (List.mem_of_getElem? (i := 31) rfl))) (mvT hZ (hw _ (List.mem_of_getElem? (i := 30) rfl))) (backOf (W := 0) (rm2_w_CHILD_OVERRIDES l Z a0 hw [] w_CHILD_OVERRIDES h0 n0 Z0 F_ordinal_w_CHILD_OVERRIDES) hZ (hw _ (List.mem_of_getElem? (i := 33) rfl)) (hw _ (List.mem_of_getElem? (i := 32) rfl)) (by decide) (by decide)) q1a q1c (g := (mkF m 1 #[.val (.ref w_CHILD_OVERRIDES), .val (.ref w_DENY), .val (.ref w_INDETERMINATE)] [(.ref w_CHILD_OVERRIDES)])) rfl (by rw [hml]; rfl) (Steps.refl _) (argsL := []) (rest := []) (lenOf pd___I rfl) rfl (by show 2 * 0 + _ ≤ _; exact Nat.le_of_eq rfl) (hb hby d1_1) (fun _ _ => ⟨rfl, e0, (by decide : 0 + 0 ≤ _), (by decide : 0 + 0 ≤ _)⟩)
  dsimp only [Pt.U, Pt.locs, Pt.cells, Pt.slots] at X1 l1 y1 z1 st1 hQ1
  subst l1 y1 z1
  obtain ⟨rfl, N1q, e1⟩ := hQ1
  have N1 := Fr.app N0 N1q
  obtain ⟨T2, X2, e2, st2⟩ := getS2 X1 hx hZ hown (host := "") (Or.inl (hw _ (List.mem_of_getElem? (i := 36) rfl))) Via.refl e1 S_INDETERMINATE (g := (mkF m 47 #[.val (.ref w_CHILD_OVERRIDES), .val (.ref w_DENY), .val (.ref w_INDETERMINATE)] [(.ref w_INDETERMINATE)])) rfl (hb hby d1_47)
  obtain ⟨fs, hr, hrun, hended, hW, hsame⟩ := X2.leave (v := some (.ref w_DENY)) (fun h => by rw [Bd.returns] at h; cases h)
  refine ⟨_, _, pre0 _ ?_, hrun, hended, _, _, rfl, ?_, ⟨_, rfl⟩, hW, hsame.mono (by decide) (by decide)⟩
  · show Steps p.tables e below (s₁.setTop (mkF m 0 #[.val (.ref w_CHILD_OVERRIDES), .val (.ref w_DENY), .val (.ref w_INDETERMINATE)] [])) _
    refine XS.aloadN X0.here hx rfl (hb hby d1_0) rfl rfl ?_
    show Steps p.tables e below (s₁.setTop (mkF m 1 #[.val (.ref w_CHILD_OVERRIDES), .val (.ref w_DENY), .val (.ref w_INDETERMINATE)] [(.ref w_CHILD_OVERRIDES)])) _
    refine st1.trans ?_
    show Steps p.tables e below (T1.setTop (mkF m 4 #[.val (.ref w_CHILD_OVERRIDES), .val (.ref w_DENY), .val (.ref w_INDETERMINATE)] [(.int 0)])) _
    refine XS.tswIn X1.here hx rfl (pc0 := 4) (pc' := 46) rfl (hb hby d1_4) rfl (by decide) (o := 42) (by decide) (by decide) (by decide) ?_
    show Steps p.tables e below (T1.setTop (mkF m 46 #[.val (.ref w_CHILD_OVERRIDES), .val (.ref w_DENY), .val (.ref w_INDETERMINATE)] [])) _
    refine XS.aloadN X1.here hx rfl (hb hby d1_46) rfl rfl ?_
    show Steps p.tables e below (T1.setTop (mkF m 47 #[.val (.ref w_CHILD_OVERRIDES), .val (.ref w_DENY), .val (.ref w_INDETERMINATE)] [(.ref w_INDETERMINATE)])) _
    refine st2 _ ?_
    show Steps p.tables e below (T2.setTop (mkF m 50 #[.val (.ref w_CHILD_OVERRIDES), .val (.ref w_DENY), .val (.ref w_INDETERMINATE)] [(.ref w_INDETERMINATE), (.ref w_INDETERMINATE)])) _
    refine Jvm.RoadKit.acmp (g := (mkF m 50 #[.val (.ref w_CHILD_OVERRIDES), .val (.ref w_DENY), .val (.ref w_INDETERMINATE)] [(.ref w_INDETERMINATE), (.ref w_INDETERMINATE)])) X2 hx rfl rfl rfl (pc0 := 50) (pc' := 53) (same := true) rfl (hb hby d1_50) rfl (decide_eq_true rfl) (by decide) (by decide) ?_
    show Steps p.tables e below (T2.setTop (mkF m 53 #[.val (.ref w_CHILD_OVERRIDES), .val (.ref w_DENY), .val (.ref w_INDETERMINATE)] [])) _
    refine XS.aloadN X2.here hx rfl (hb hby d1_53) rfl rfl ?_
    show Steps p.tables e below (T2.setTop (mkF m 54 #[.val (.ref w_CHILD_OVERRIDES), .val (.ref w_DENY), .val (.ref w_INDETERMINATE)] [(.ref w_DENY)])) _
    refine XS.goto X2.here hx rfl (pc0 := 54) (pc' := 112) rfl (hb hby d1_54) (by decide) (by decide) ?_
    show Steps p.tables e below (T2.setTop (mkF m 112 #[.val (.ref w_CHILD_OVERRIDES), .val (.ref w_DENY), .val (.ref w_INDETERMINATE)] [(.ref w_DENY)])) _
    jvm_step X2.here [X2.here.top, hx, (hb hby d1_112), X2.method', Bd.returns, Value.isRef, FieldType.isReference]
    first | (intro acts; rw [hr _ acts rfl rfl rfl]) | rw [hr _ _ rfl rfl rfl]
    exact Steps.refl _
  · show Q1_w_CHILD_OVERRIDES_w_DENY_w_INDETERMINATE Z w_CHILD_OVERRIDES w_DENY w_INDETERMINATE h0 n0 _ T2.heap _
    rw [e2]
    exact ⟨rfl, N1, rfl⟩
set_option maxRecDepth 65536 in
set_option maxHeartbeats 40000000 in
theorem pc0_k012 {p : Program} {l : Launch} {e : Env} {s : State} {m : MethodId} {args : Array Value} {below : List Frame} {meth : Method} {c : Code} {T0 : State} {locs : List Loc} {Z : State} {a0 : Array Value} {h0 : Heap} {n0 : Nat} (p1 : Int32) (p2 : Int32) (p3 : Int32) (b1 : Addr) (b8 : Addr) (b15 : Addr) (k1 : ClassId) (w_CHILD_OVERRIDES : Addr) (w_PARENT_OVERRIDES : Addr) (w_AND_BOTH_PERMIT : Addr) (k8 : ClassId) (w_PERMIT : Addr) (w_DENY : Addr) (w_INDETERMINATE : Addr) (k15 : ClassId)
    (X0 : Stand p l e room_1 s m args below meth c T0 locs 3 33) (hx : p.tables.exec = Jvm.exec) (hZ : Z.Warmed39 s.vm) (hw : ∀ d ∈ tables_1, d.before a0 Z = true) (hby : c.code = code) (hml : c.maxLocals = 10) (hown : s.vm.findClass "com/example/tributary/tributary/InheritanceTypeCombinePinLaw" = some m.cls) (e0 : T0.heap = h0) (Z0 : n0 ≤ h0.size) (N0 : Fr n0 locs) (V_b1 : Arv Z h0 b1 k1 (.object "com/example/tributary/tributary/AccessList$InheritanceType") (3 : Int32) [(.ref w_CHILD_OVERRIDES), (.ref w_PARENT_OVERRIDES), (.ref w_AND_BOTH_PERMIT)] .null) (V_b8 : Arv Z h0 b8 k8 (.object "com/example/tributary/tributary/AccessList$Decision") (3 : Int32) [(.ref w_PERMIT), (.ref w_DENY), (.ref w_INDETERMINATE)] .null) (F_ordinal_w_CHILD_OVERRIDES : Fld Z h0 w_CHILD_OVERRIDES "java/lang/Enum" "ordinal" "I" (.int 0)) (E_w_CHILD_OVERRIDES : Exa Z h0 w_CHILD_OVERRIDES "com/example/tributary/tributary/AccessList$InheritanceType") (S_INDETERMINATE : Sta Z h0 "com/example/tributary/tributary/AccessList$Decision" "INDETERMINATE" "Lcom/example/tributary/tributary/AccessList$Decision;" (.ref w_INDETERMINATE)) (V_b15 : Arv Z h0 b15 k15 .int (27 : Int32) [(.int 0), (.int 1), (.int 0), (.int 0), (.int 1), (.int 1), (.int 0), (.int 1), (.int 2), (.int 0), (.int 0), (.int 0), (.int 1), (.int 1), (.int 1), (.int 0), (.int 1), (.int 2), (.int 0), (.int 1), (.int 1), (.int 1), (.int 1), (.int 1), (.int 1), (.int 1), (.int 1)] (.int (0 : Int32))) :
    ∃ (T' : State) (L' : List Loc) (Ls : Array Slot), Stand p l e room_1 s m args below meth c T' L' 3 33 ∧ Fr n0 L' ∧ ∀ target, Steps p.tables e below (T'.setTop (mkF m 253 Ls [(.int 1)])) target → Steps p.tables e below (T0.setTop (mkF m 206 #[.val (.int p1), .val (.int p2), .val (.int p3), .val (.int 0), .val (.int 1), .val (.int 2), .val (.ref b1), .val (.ref b8), .val (.ref b15), .unset] [])) target := by
  obtain ⟨cq1, kq1, q1a, q1b, q1c⟩ := isOf hZ e0 E_w_CHILD_OVERRIDES
  obtain ⟨_, _, ⟨T1, L1, k1, n1⟩, -, X1, ⟨Lc1, hQ1, l1, y1, z1⟩, st1⟩ := X0.virtualBack hx (y := (⟨"com/example/tributary/tributary/AccessList$InheritanceType", "combine", "(Lcom/example/tributary/tributary/AccessList$Decision;Lcom/example/tributary/tributary/AccessList$Decision;)Lcom/example/tributary/tributary/AccessList$Decision;"⟩ : MethodName)) (z := (⟨"com/example/tributary/tributary/AccessList$InheritanceType", "combine", "(Lcom/example/tributary/tributary/AccessList$Decision;Lcom/example/tributary/tributary/AccessList$Decision;)Lcom/example/tributary/tributary/AccessList$Decision;"⟩ : MethodName)) hown (mvT hZ (hw _ (List.mem_of_getElem? (i := 22) rfl))) (mvT hZ (hw _ (List.mem_of_getElem? (i := 23) rfl))) (notFace_of_selects (args := #[]) (mvT hZ (hw _ (List.mem_of_getElem? (i := 25) rfl)))) (mvT hZ (hw _ (List.mem_of_getElem? (i := 25) rfl))) (mvT hZ (hw _ (List.mem_of_getElem? (i := 24) rfl))) (by decide) (backOf (W := 0) (rm1_w_CHILD_OVERRIDES_w_DENY_w_INDETERMINATE l Z a0 hw [] w_CHILD_OVERRIDES w_DENY w_INDETERMINATE h0 n0 Z0 F_ordinal_w_CHILD_OVERRIDES E_w_CHILD_OVERRIDES S_INDETERMINATE) hZ (hw _ (List.mem_of_getElem? (i := 26) rfl)) (hw _ (List.mem_of_getElem? (i := 4) rfl)) (by decide) (by decide)) q1a q1c (g := (mkF m 220 #[.val (.int p1), .val (.int p2), .val (.int p3), .val (.int 0), .val (.int 1), .val (.int 2), .val (.ref b1), .val (.ref b8), .val (.ref b15), .unset] [(.ref w_INDETERMINATE), (.ref w_DENY), (.ref w_CHILD_OVERRIDES)])) rfl (by rw [hml]; rfl) (Steps.refl _) (argsL := [(.ref w_DENY), (.ref w_INDETERMINATE)]) (rest := []) (lenOf pd__Lcom_example_tributary_tributary_AccessList_Decision_Lcom_example_tributary_tributary_AccessList_Decision__Lcom_example_tributary_tributary_AccessList_Decision_ rfl) rfl (by show 2 * 0 + _ ≤ _; exact Nat.le_of_eq rfl) (hb hby at_220) (fun _ _ => ⟨rfl, e0, (by decide : 3 + 0 ≤ _), (by decide : 33 + 0 ≤ _)⟩)
  dsimp only [Pt.U, Pt.locs, Pt.cells, Pt.slots] at X1 l1 y1 z1 st1 hQ1
  subst l1 y1 z1
  obtain ⟨rfl, N1q, e1⟩ := hQ1
  have N1 := Fr.app N0 N1q
  refine ⟨T1, _, #[.val (.int p1), .val (.int p2), .val (.int p3), .val (.int 0), .val (.int 1), .val (.int 2), .val (.ref b1), .val (.ref b8), .val (.ref b15), .val (.ref w_DENY)], X1, N1, fun target kt => ?_⟩
  show Steps p.tables e below (T0.setTop (mkF m 206 #[.val (.int p1), .val (.int p2), .val (.int p3), .val (.int 0), .val (.int 1), .val (.int 2), .val (.ref b1), .val (.ref b8), .val (.ref b15), .unset] [])) _
  refine XS.aload X0.here hx rfl (hb hby at_206) rfl rfl ?_
  show Steps p.tables e below (T0.setTop (mkF m 208 #[.val (.int p1), .val (.int p2), .val (.int p3), .val (.int 0), .val (.int 1), .val (.int 2), .val (.ref b1), .val (.ref b8), .val (.ref b15), .unset] [(.ref b1)])) _
  refine XS.iloadN X0.here hx rfl (hb hby at_208) rfl ?_
  show Steps p.tables e below (T0.setTop (mkF m 209 #[.val (.int p1), .val (.int p2), .val (.int p3), .val (.int 0), .val (.int 1), .val (.int 2), .val (.ref b1), .val (.ref b8), .val (.ref b15), .unset] [(.int 0), (.ref b1)])) _
  refine own_ldR X0 hx hZ e0 V_b1 (j := (0 : Int32)) ⟨by decide, by decide⟩ rfl (g := (mkF m 209 #[.val (.int p1), .val (.int p2), .val (.int p3), .val (.int 0), .val (.int 1), .val (.int 2), .val (.ref b1), .val (.ref b8), .val (.ref b15), .unset] [(.int 0), (.ref b1)])) rfl rfl (hb hby at_209) _ ?_
  show Steps p.tables e below (T0.setTop (mkF m 210 #[.val (.int p1), .val (.int p2), .val (.int p3), .val (.int 0), .val (.int 1), .val (.int 2), .val (.ref b1), .val (.ref b8), .val (.ref b15), .unset] [(.ref w_CHILD_OVERRIDES)])) _
  refine XS.aload X0.here hx rfl (hb hby at_210) rfl rfl ?_
  show Steps p.tables e below (T0.setTop (mkF m 212 #[.val (.int p1), .val (.int p2), .val (.int p3), .val (.int 0), .val (.int 1), .val (.int 2), .val (.ref b1), .val (.ref b8), .val (.ref b15), .unset] [(.ref b8), (.ref w_CHILD_OVERRIDES)])) _
  refine XS.iload X0.here hx rfl (hb hby at_212) rfl ?_
  show Steps p.tables e below (T0.setTop (mkF m 214 #[.val (.int p1), .val (.int p2), .val (.int p3), .val (.int 0), .val (.int 1), .val (.int 2), .val (.ref b1), .val (.ref b8), .val (.ref b15), .unset] [(.int 1), (.ref b8), (.ref w_CHILD_OVERRIDES)])) _
  refine own_ldR X0 hx hZ e0 V_b8 (j := (1 : Int32)) ⟨by decide, by decide⟩ rfl (g := (mkF m 214 #[.val (.int p1), .val (.int p2), .val (.int p3), .val (.int 0), .val (.int 1), .val (.int 2), .val (.ref b1), .val (.ref b8), .val (.ref b15), .unset] [(.int 1), (.ref b8), (.ref w_CHILD_OVERRIDES)])) rfl rfl (hb hby at_214) _ ?_
  show Steps p.tables e below (T0.setTop (mkF m 215 #[.val (.int p1), .val (.int p2), .val (.int p3), .val (.int 0), .val (.int 1), .val (.int 2), .val (.ref b1), .val (.ref b8), .val (.ref b15), .unset] [(.ref w_DENY), (.ref w_CHILD_OVERRIDES)])) _
  refine XS.aload X0.here hx rfl (hb hby at_215) rfl rfl ?_
  show Steps p.tables e below (T0.setTop (mkF m 217 #[.val (.int p1), .val (.int p2), .val (.int p3), .val (.int 0), .val (.int 1), .val (.int 2), .val (.ref b1), .val (.ref b8), .val (.ref b15), .unset] [(.ref b8), (.ref w_DENY), (.ref w_CHILD_OVERRIDES)])) _
  refine XS.iload X0.here hx rfl (hb hby at_217) rfl ?_
  show Steps p.tables e below (T0.setTop (mkF m 219 #[.val (.int p1), .val (.int p2), .val (.int p3), .val (.int 0), .val (.int 1), .val (.int 2), .val (.ref b1), .val (.ref b8), .val (.ref b15), .unset] [(.int 2), (.ref b8), (.ref w_DENY), (.ref w_CHILD_OVERRIDES)])) _
  refine own_ldR X0 hx hZ e0 V_b8 (j := (2 : Int32)) ⟨by decide, by decide⟩ rfl (g := (mkF m 219 #[.val (.int p1), .val (.int p2), .val (.int p3), .val (.int 0), .val (.int 1), .val (.int 2), .val (.ref b1), .val (.ref b8), .val (.ref b15), .unset] [(.int 2), (.ref b8), (.ref w_DENY), (.ref w_CHILD_OVERRIDES)])) rfl rfl (hb hby at_219) _ ?_
  show Steps p.tables e below (T0.setTop (mkF m 220 #[.val (.int p1), .val (.int p2), .val (.int p3), .val (.int 0), .val (.int 1), .val (.int 2), .val (.ref b1), .val (.ref b8), .val (.ref b15), .unset] [(.ref w_INDETERMINATE), (.ref w_DENY), (.ref w_CHILD_OVERRIDES)])) _
  refine st1.trans ?_
  show Steps p.tables e below (T1.setTop (mkF m 223 #[.val (.int p1), .val (.int p2), .val (.int p3), .val (.int 0), .val (.int 1), .val (.int 2), .val (.ref b1), .val (.ref b8), .val (.ref b15), .unset] [(.ref w_DENY)])) _
  refine XS.astore X1.here hx rfl (hb hby at_223) rfl rfl (l' := #[.val (.int p1), .val (.int p2), .val (.int p3), .val (.int 0), .val (.int 1), .val (.int 2), .val (.ref b1), .val (.ref b8), .val (.ref b15), .val (.ref w_DENY)]) rfl ?_
  show Steps p.tables e below (T1.setTop (mkF m 225 #[.val (.int p1), .val (.int p2), .val (.int p3), .val (.int 0), .val (.int 1), .val (.int 2), .val (.ref b1), .val (.ref b8), .val (.ref b15), .val (.ref w_DENY)] [])) _
  refine XS.aload X1.here hx rfl (hb hby at_225) rfl rfl ?_
  show Steps p.tables e below (T1.setTop (mkF m 227 #[.val (.int p1), .val (.int p2), .val (.int p3), .val (.int 0), .val (.int 1), .val (.int 2), .val (.ref b1), .val (.ref b8), .val (.ref b15), .val (.ref w_DENY)] [(.ref w_DENY)])) _
  refine XS.aload X1.here hx rfl (hb hby at_227) rfl rfl ?_
  show Steps p.tables e below (T1.setTop (mkF m 229 #[.val (.int p1), .val (.int p2), .val (.int p3), .val (.int 0), .val (.int 1), .val (.int 2), .val (.ref b1), .val (.ref b8), .val (.ref b15), .val (.ref w_DENY)] [(.ref b8), (.ref w_DENY)])) _
  refine XS.aload X1.here hx rfl (hb hby at_229) rfl rfl ?_
  show Steps p.tables e below (T1.setTop (mkF m 231 #[.val (.int p1), .val (.int p2), .val (.int p3), .val (.int 0), .val (.int 1), .val (.int 2), .val (.ref b1), .val (.ref b8), .val (.ref b15), .val (.ref w_DENY)] [(.ref b15), (.ref b8), (.ref w_DENY)])) _
  refine XS.iloadN X1.here hx rfl (hb hby at_231) rfl ?_
  show Steps p.tables e below (T1.setTop (mkF m 232 #[.val (.int p1), .val (.int p2), .val (.int p3), .val (.int 0), .val (.int 1), .val (.int 2), .val (.ref b1), .val (.ref b8), .val (.ref b15), .val (.ref w_DENY)] [(.int 0), (.ref b15), (.ref b8), (.ref w_DENY)])) _
  refine XS.bipush X1.here hx rfl (hb hby at_232) ?_
  show Steps p.tables e below (T1.setTop (mkF m 234 #[.val (.int p1), .val (.int p2), .val (.int p3), .val (.int 0), .val (.int 1), .val (.int 2), .val (.ref b1), .val (.ref b8), .val (.ref b15), .val (.ref w_DENY)] [(.int 9), (.int 0), (.ref b15), (.ref b8), (.ref w_DENY)])) _
  refine XS.imul X1.here hx rfl (hb hby at_234) rfl ?_
  show Steps p.tables e below (T1.setTop (mkF m 235 #[.val (.int p1), .val (.int p2), .val (.int p3), .val (.int 0), .val (.int 1), .val (.int 2), .val (.ref b1), .val (.ref b8), .val (.ref b15), .val (.ref w_DENY)] [(.int ((0 : Int32) * (9 : Int32))), (.ref b15), (.ref b8), (.ref w_DENY)])) _
  rw [(by decide : ((0 : Int32) * (9 : Int32)) = (0 : Int32))]
  show Steps p.tables e below (T1.setTop (mkF m 235 #[.val (.int p1), .val (.int p2), .val (.int p3), .val (.int 0), .val (.int 1), .val (.int 2), .val (.ref b1), .val (.ref b8), .val (.ref b15), .val (.ref w_DENY)] [(.int 0), (.ref b15), (.ref b8), (.ref w_DENY)])) _
  refine XS.iload X1.here hx rfl (hb hby at_235) rfl ?_
  show Steps p.tables e below (T1.setTop (mkF m 237 #[.val (.int p1), .val (.int p2), .val (.int p3), .val (.int 0), .val (.int 1), .val (.int 2), .val (.ref b1), .val (.ref b8), .val (.ref b15), .val (.ref w_DENY)] [(.int 1), (.int 0), (.ref b15), (.ref b8), (.ref w_DENY)])) _
  refine XS.iconst X1.here hx rfl (hb hby at_237) ?_
  show Steps p.tables e below (T1.setTop (mkF m 238 #[.val (.int p1), .val (.int p2), .val (.int p3), .val (.int 0), .val (.int 1), .val (.int 2), .val (.ref b1), .val (.ref b8), .val (.ref b15), .val (.ref w_DENY)] [(.int 3), (.int 1), (.int 0), (.ref b15), (.ref b8), (.ref w_DENY)])) _
  refine XS.imul X1.here hx rfl (hb hby at_238) rfl ?_
  show Steps p.tables e below (T1.setTop (mkF m 239 #[.val (.int p1), .val (.int p2), .val (.int p3), .val (.int 0), .val (.int 1), .val (.int 2), .val (.ref b1), .val (.ref b8), .val (.ref b15), .val (.ref w_DENY)] [(.int ((1 : Int32) * (3 : Int32))), (.int 0), (.ref b15), (.ref b8), (.ref w_DENY)])) _
  rw [(by decide : ((1 : Int32) * (3 : Int32)) = (3 : Int32))]
  show Steps p.tables e below (T1.setTop (mkF m 239 #[.val (.int p1), .val (.int p2), .val (.int p3), .val (.int 0), .val (.int 1), .val (.int 2), .val (.ref b1), .val (.ref b8), .val (.ref b15), .val (.ref w_DENY)] [(.int 3), (.int 0), (.ref b15), (.ref b8), (.ref w_DENY)])) _
  refine XS.iadd X1.here hx rfl (hb hby at_239) rfl ?_
  show Steps p.tables e below (T1.setTop (mkF m 240 #[.val (.int p1), .val (.int p2), .val (.int p3), .val (.int 0), .val (.int 1), .val (.int 2), .val (.ref b1), .val (.ref b8), .val (.ref b15), .val (.ref w_DENY)] [(.int ((0 : Int32) + (3 : Int32))), (.ref b15), (.ref b8), (.ref w_DENY)])) _
  rw [(by decide : ((0 : Int32) + (3 : Int32)) = (3 : Int32))]
  show Steps p.tables e below (T1.setTop (mkF m 240 #[.val (.int p1), .val (.int p2), .val (.int p3), .val (.int 0), .val (.int 1), .val (.int 2), .val (.ref b1), .val (.ref b8), .val (.ref b15), .val (.ref w_DENY)] [(.int 3), (.ref b15), (.ref b8), (.ref w_DENY)])) _
  refine XS.iload X1.here hx rfl (hb hby at_240) rfl ?_
  show Steps p.tables e below (T1.setTop (mkF m 242 #[.val (.int p1), .val (.int p2), .val (.int p3), .val (.int 0), .val (.int 1), .val (.int 2), .val (.ref b1), .val (.ref b8), .val (.ref b15), .val (.ref w_DENY)] [(.int 2), (.int 3), (.ref b15), (.ref b8), (.ref w_DENY)])) _
  refine XS.iadd X1.here hx rfl (hb hby at_242) rfl ?_
  show Steps p.tables e below (T1.setTop (mkF m 243 #[.val (.int p1), .val (.int p2), .val (.int p3), .val (.int 0), .val (.int 1), .val (.int 2), .val (.ref b1), .val (.ref b8), .val (.ref b15), .val (.ref w_DENY)] [(.int ((3 : Int32) + (2 : Int32))), (.ref b15), (.ref b8), (.ref w_DENY)])) _
  rw [(by decide : ((3 : Int32) + (2 : Int32)) = (5 : Int32))]
  show Steps p.tables e below (T1.setTop (mkF m 243 #[.val (.int p1), .val (.int p2), .val (.int p3), .val (.int 0), .val (.int 1), .val (.int 2), .val (.ref b1), .val (.ref b8), .val (.ref b15), .val (.ref w_DENY)] [(.int 5), (.ref b15), (.ref b8), (.ref w_DENY)])) _
  refine own_ldI X1 hx hZ e1 V_b15 (j := (5 : Int32)) ⟨by decide, by decide⟩ rfl (g := (mkF m 243 #[.val (.int p1), .val (.int p2), .val (.int p3), .val (.int 0), .val (.int 1), .val (.int 2), .val (.ref b1), .val (.ref b8), .val (.ref b15), .val (.ref w_DENY)] [(.int 5), (.ref b15), (.ref b8), (.ref w_DENY)])) rfl rfl (hb hby at_243) _ ?_
  show Steps p.tables e below (T1.setTop (mkF m 244 #[.val (.int p1), .val (.int p2), .val (.int p3), .val (.int 0), .val (.int 1), .val (.int 2), .val (.ref b1), .val (.ref b8), .val (.ref b15), .val (.ref w_DENY)] [(.int 1), (.ref b8), (.ref w_DENY)])) _
  refine own_ldR X1 hx hZ e1 V_b8 (j := (1 : Int32)) ⟨by decide, by decide⟩ rfl (g := (mkF m 244 #[.val (.int p1), .val (.int p2), .val (.int p3), .val (.int 0), .val (.int 1), .val (.int 2), .val (.ref b1), .val (.ref b8), .val (.ref b15), .val (.ref w_DENY)] [(.int 1), (.ref b8), (.ref w_DENY)])) rfl rfl (hb hby at_244) _ ?_
  show Steps p.tables e below (T1.setTop (mkF m 245 #[.val (.int p1), .val (.int p2), .val (.int p3), .val (.int 0), .val (.int 1), .val (.int 2), .val (.ref b1), .val (.ref b8), .val (.ref b15), .val (.ref w_DENY)] [(.ref w_DENY), (.ref w_DENY)])) _
  refine Jvm.RoadKit.acmp (g := (mkF m 245 #[.val (.int p1), .val (.int p2), .val (.int p3), .val (.int 0), .val (.int 1), .val (.int 2), .val (.ref b1), .val (.ref b8), .val (.ref b15), .val (.ref w_DENY)] [(.ref w_DENY), (.ref w_DENY)])) X1 hx rfl rfl rfl (pc0 := 245) (pc' := 248) (same := true) rfl (hb hby at_245) rfl (decide_eq_true rfl) (by decide) (by decide) ?_
  show Steps p.tables e below (T1.setTop (mkF m 248 #[.val (.int p1), .val (.int p2), .val (.int p3), .val (.int 0), .val (.int 1), .val (.int 2), .val (.ref b1), .val (.ref b8), .val (.ref b15), .val (.ref w_DENY)] [])) _
  refine XS.iconst X1.here hx rfl (hb hby at_248) ?_
  show Steps p.tables e below (T1.setTop (mkF m 249 #[.val (.int p1), .val (.int p2), .val (.int p3), .val (.int 0), .val (.int 1), .val (.int 2), .val (.ref b1), .val (.ref b8), .val (.ref b15), .val (.ref w_DENY)] [(.int 1)])) _
  refine XS.goto X1.here hx rfl (pc0 := 249) (pc' := 253) rfl (hb hby at_249) (by decide) (by decide) ?_
  show Steps p.tables e below (T1.setTop (mkF m 253 #[.val (.int p1), .val (.int p2), .val (.int p3), .val (.int 0), .val (.int 1), .val (.int 2), .val (.ref b1), .val (.ref b8), .val (.ref b15), .val (.ref w_DENY)] [(.int 1)])) _
  exact kt
def Q1_w_CHILD_OVERRIDES_w_INDETERMINATE_w_PERMIT (Z : State) (w_CHILD_OVERRIDES : Addr) (w_INDETERMINATE : Addr) (w_PERMIT : Addr) (h0 : Heap) (n0 : Nat) (v : Option Value) (h : Heap) (L : List Loc) : Prop := v = some (.ref w_PERMIT) ∧ Fr n0 L ∧ h = h0
set_option maxRecDepth 65536 in
set_option maxHeartbeats 40000000 in
theorem rm1_w_CHILD_OVERRIDES_w_INDETERMINATE_w_PERMIT (l : Launch) (Z : State) (a0 : Array Value) (hw : ∀ d ∈ tables_1, d.before a0 Z = true) (ws : List Jvm.Cond) (w_CHILD_OVERRIDES : Addr) (w_INDETERMINATE : Addr) (w_PERMIT : Addr) (h0 : Heap) (n0 : Nat) (Z0 : n0 ≤ h0.size) (F_ordinal_w_CHILD_OVERRIDES : Fld Z h0 w_CHILD_OVERRIDES "java/lang/Enum" "ordinal" "I" (.int 0)) (E_w_CHILD_OVERRIDES : Exa Z h0 w_CHILD_OVERRIDES "com/example/tributary/tributary/AccessList$InheritanceType") (S_INDETERMINATE : Sta Z h0 "com/example/tributary/tributary/AccessList$Decision" "INDETERMINATE" "Lcom/example/tributary/tributary/AccessList$Decision;" (.ref w_INDETERMINATE)) (n_w_INDETERMINATE_w_PERMIT : ¬ (w_INDETERMINATE = w_PERMIT)) :
    MetFree l (⟨"com/example/tributary/tributary/AccessList$InheritanceType", "combine", "(Lcom/example/tributary/tributary/AccessList$Decision;Lcom/example/tributary/tributary/AccessList$Decision;)Lcom/example/tributary/tributary/AccessList$Decision;"⟩ : MethodName) (head1 (Jvm.Cond.code (⟨"com/example/tributary/tributary/AccessList$InheritanceType", "combine", "(Lcom/example/tributary/tributary/AccessList$Decision;Lcom/example/tributary/tributary/AccessList$Decision;)Lcom/example/tributary/tributary/AccessList$Decision;"⟩ : MethodName) prog_6_method_4_code 3 (some (.object "com/example/tributary/tributary/AccessList$Decision")) :: ws) ({ frames := 1, cells := 0, slots := 0, locals := 12 } : Room)) (fun a U => a = #[(.ref w_CHILD_OVERRIDES), (.ref w_INDETERMINATE), (.ref w_PERMIT)] ∧ Z.Warmed39 U.vm ∧ U.heap = h0) (fun _ _ _ _ _ => True) (fun _ U o U' => ∃ v L, o = .returned v ∧ Q1_w_CHILD_OVERRIDES_w_INDETERMINATE_w_PERMIT Z w_CHILD_OVERRIDES w_INDETERMINATE w_PERMIT h0 n0 v U'.heap L ∧ FrameEnd U o U' L ({ frames := 1, cells := 0, slots := 0, locals := 12 } : Room).cells ({ frames := 1, cells := 0, slots := 0, locals := 12 } : Room).slots) := by
  refine MetFree.of_bodySF (plainFor_of_name pn_1) hisR ?_
  intro p e s m args below meth c s₁ Bd hml0 hP hK
  obtain ⟨rfl, hZ, hh⟩ := hP
  have hx := Bd.exec
  have hby := Bd.bytes
  have hml : c.maxLocals = 3 := hml0
  have hown : s.vm.findClass "com/example/tributary/tributary/AccessList$InheritanceType" = some m.cls := findClass_of_methodNamed Bd.named
  have hnm := (name_of_methodNamed Bd.named Bd.method).1
  have X0 : Stand p l e ({ frames := 1, cells := 0, slots := 0, locals := 12 } : Room) s m #[(.ref w_CHILD_OVERRIDES), (.ref w_INDETERMINATE), (.ref w_PERMIT)] below meth c s₁ [] 0 0 := Stand.of_body Bd
  have e0 : s₁.heap = h0 := by rw [← hh, Bd.state]; rfl
  have N0 := Fr.nil n0
  have pre0 : ∀ t, Steps p.tables e below (s₁.setTop (mkF m 0 #[.val (.ref w_CHILD_OVERRIDES), .val (.ref w_INDETERMINATE), .val (.ref w_PERMIT)] [])) t → Steps p.tables e below (s₁.setTop (entryFrame m #[(.ref w_CHILD_OVERRIDES), (.ref w_INDETERMINATE), (.ref w_PERMIT)] 3)) t := fun t k => castTop (by first | (simp [entryFrame, mkF, argsToLocals, Value.category]; done) | rfl) k
  obtain ⟨cq1, kq1, q1a, q1b, q1c⟩ := isOf hZ e0 E_w_CHILD_OVERRIDES
  obtain ⟨_, _, ⟨T1, L1, k1, n1⟩, -, X1, ⟨Lc1, hQ1, l1, y1, z1⟩, st1⟩ := X0.virtualBackUp hx (x := (⟨"com/example/tributary/tributary/AccessList$InheritanceType", "ordinal", "()I"⟩ : MethodName)) (y := (⟨"java/lang/Enum", "ordinal", "()I"⟩ : MethodName)) (owner := "java/lang/Enum") hown (mvT hZ (hw _ (List.mem_of_getElem? (i := 27) rfl))) (mvT hZ (hw _ (List.mem_of_getElem? (i := 28) rfl))) (mvT hZ (hw _ (List.mem_of_getElem? (i := 29) rfl))) (by decide) (mvT hZ (hw _ (List.mem_of_getElem? (i := 31) rfl))) (mvT hZ (hw _ (List.mem_of_getElem? (i := 30) rfl))) (backOf (W := 0) (rm2_w_CHILD_OVERRIDES l Z a0 hw [] w_CHILD_OVERRIDES h0 n0 Z0 F_ordinal_w_CHILD_OVERRIDES) hZ (hw _ (List.mem_of_getElem? (i := 33) rfl)) (hw _ (List.mem_of_getElem? (i := 32) rfl)) (by decide) (by decide)) q1a q1c (g := (mkF m 1 #[.val (.ref w_CHILD_OVERRIDES), .val (.ref w_INDETERMINATE), .val (.ref w_PERMIT)] [(.ref w_CHILD_OVERRIDES)])) rfl (by rw [hml]; rfl) (Steps.refl _) (argsL := []) (rest := []) (lenOf pd___I rfl) rfl (by show 2 * 0 + _ ≤ _; exact Nat.le_of_eq rfl) (hb hby d1_1) (fun _ _ => ⟨rfl, e0, (by decide : 0 + 0 ≤ _), (by decide : 0 + 0 ≤ _)⟩)
  dsimp only [Pt.U, Pt.locs, Pt.cells, Pt.slots] at X1 l1 y1 z1 st1 hQ1
  subst l1 y1 z1
  obtain ⟨rfl, N1q, e1⟩ := hQ1
  have N1 := Fr.app N0 N1q
  obtain ⟨T2, X2, e2, st2⟩ := getS2 X1 hx hZ hown (host := "") (Or.inl (hw _ (List.mem_of_getElem? (i := 36) rfl))) Via.refl e1 S_INDETERMINATE (g := (mkF m 47 #[.val (.ref w_CHILD_OVERRIDES), .val (.ref w_INDETERMINATE), .val (.ref w_PERMIT)] [(.ref w_PERMIT)])) rfl (hb hby d1_47)
  obtain ⟨fs, hr, hrun, hended, hW, hsame⟩ := X2.leave (v := some (.ref w_PERMIT)) (fun h => by rw [Bd.returns] at h; cases h)
  refine ⟨_, _, pre0 _ ?_, hrun, hended, _, _, rfl, ?_, ⟨_, rfl⟩, hW, hsame.mono (by decide) (by decide)⟩
  · show Steps p.tables e below (s₁.setTop (mkF m 0 #[.val (.ref w_CHILD_OVERRIDES), .val (.ref w_INDETERMINATE), .val (.ref w_PERMIT)] [])) _
    refine XS.aloadN X0.here hx rfl (hb hby d1_0) rfl rfl ?_
    show Steps p.tables e below (s₁.setTop (mkF m 1 #[.val (.ref w_CHILD_OVERRIDES), .val (.ref w_INDETERMINATE), .val (.ref w_PERMIT)] [(.ref w_CHILD_OVERRIDES)])) _
    refine st1.trans ?_
    show Steps p.tables e below (T1.setTop (mkF m 4 #[.val (.ref w_CHILD_OVERRIDES), .val (.ref w_INDETERMINATE), .val (.ref w_PERMIT)] [(.int 0)])) _
    refine XS.tswIn X1.here hx rfl (pc0 := 4) (pc' := 46) rfl (hb hby d1_4) rfl (by decide) (o := 42) (by decide) (by decide) (by decide) ?_
    show Steps p.tables e below (T1.setTop (mkF m 46 #[.val (.ref w_CHILD_OVERRIDES), .val (.ref w_INDETERMINATE), .val (.ref w_PERMIT)] [])) _
    refine XS.aloadN X1.here hx rfl (hb hby d1_46) rfl rfl ?_
    show Steps p.tables e below (T1.setTop (mkF m 47 #[.val (.ref w_CHILD_OVERRIDES), .val (.ref w_INDETERMINATE), .val (.ref w_PERMIT)] [(.ref w_PERMIT)])) _
    refine st2 _ ?_
    show Steps p.tables e below (T2.setTop (mkF m 50 #[.val (.ref w_CHILD_OVERRIDES), .val (.ref w_INDETERMINATE), .val (.ref w_PERMIT)] [(.ref w_INDETERMINATE), (.ref w_PERMIT)])) _
    refine Jvm.RoadKit.acmp (g := (mkF m 50 #[.val (.ref w_CHILD_OVERRIDES), .val (.ref w_INDETERMINATE), .val (.ref w_PERMIT)] [(.ref w_INDETERMINATE), (.ref w_PERMIT)])) X2 hx rfl rfl rfl (pc0 := 50) (pc' := 57) (same := false) rfl (hb hby d1_50) rfl (decide_eq_false fun q => (Ne.symm n_w_INDETERMINATE_w_PERMIT) (Value.ref.inj q)) (by decide) (by decide) ?_
    show Steps p.tables e below (T2.setTop (mkF m 57 #[.val (.ref w_CHILD_OVERRIDES), .val (.ref w_INDETERMINATE), .val (.ref w_PERMIT)] [])) _
    refine XS.aloadN X2.here hx rfl (hb hby d1_57) rfl rfl ?_
    show Steps p.tables e below (T2.setTop (mkF m 58 #[.val (.ref w_CHILD_OVERRIDES), .val (.ref w_INDETERMINATE), .val (.ref w_PERMIT)] [(.ref w_PERMIT)])) _
    refine XS.goto X2.here hx rfl (pc0 := 58) (pc' := 112) rfl (hb hby d1_58) (by decide) (by decide) ?_
    show Steps p.tables e below (T2.setTop (mkF m 112 #[.val (.ref w_CHILD_OVERRIDES), .val (.ref w_INDETERMINATE), .val (.ref w_PERMIT)] [(.ref w_PERMIT)])) _
    jvm_step X2.here [X2.here.top, hx, (hb hby d1_112), X2.method', Bd.returns, Value.isRef, FieldType.isReference]
    first | (intro acts; rw [hr _ acts rfl rfl rfl]) | rw [hr _ _ rfl rfl rfl]
    exact Steps.refl _
  · show Q1_w_CHILD_OVERRIDES_w_INDETERMINATE_w_PERMIT Z w_CHILD_OVERRIDES w_INDETERMINATE w_PERMIT h0 n0 _ T2.heap _
    rw [e2]
    exact ⟨rfl, N1, rfl⟩
set_option maxRecDepth 65536 in
set_option maxHeartbeats 40000000 in
theorem pc0_k020 {p : Program} {l : Launch} {e : Env} {s : State} {m : MethodId} {args : Array Value} {below : List Frame} {meth : Method} {c : Code} {T0 : State} {locs : List Loc} {Z : State} {a0 : Array Value} {h0 : Heap} {n0 : Nat} (p1 : Int32) (p2 : Int32) (p3 : Int32) (b1 : Addr) (b8 : Addr) (b15 : Addr) (k1 : ClassId) (w_CHILD_OVERRIDES : Addr) (w_PARENT_OVERRIDES : Addr) (w_AND_BOTH_PERMIT : Addr) (k8 : ClassId) (w_PERMIT : Addr) (w_DENY : Addr) (w_INDETERMINATE : Addr) (k15 : ClassId)
    (X0 : Stand p l e room_1 s m args below meth c T0 locs 3 33) (hx : p.tables.exec = Jvm.exec) (hZ : Z.Warmed39 s.vm) (hw : ∀ d ∈ tables_1, d.before a0 Z = true) (hby : c.code = code) (hml : c.maxLocals = 10) (hown : s.vm.findClass "com/example/tributary/tributary/InheritanceTypeCombinePinLaw" = some m.cls) (e0 : T0.heap = h0) (Z0 : n0 ≤ h0.size) (N0 : Fr n0 locs) (V_b1 : Arv Z h0 b1 k1 (.object "com/example/tributary/tributary/AccessList$InheritanceType") (3 : Int32) [(.ref w_CHILD_OVERRIDES), (.ref w_PARENT_OVERRIDES), (.ref w_AND_BOTH_PERMIT)] .null) (V_b8 : Arv Z h0 b8 k8 (.object "com/example/tributary/tributary/AccessList$Decision") (3 : Int32) [(.ref w_PERMIT), (.ref w_DENY), (.ref w_INDETERMINATE)] .null) (F_ordinal_w_CHILD_OVERRIDES : Fld Z h0 w_CHILD_OVERRIDES "java/lang/Enum" "ordinal" "I" (.int 0)) (E_w_CHILD_OVERRIDES : Exa Z h0 w_CHILD_OVERRIDES "com/example/tributary/tributary/AccessList$InheritanceType") (S_INDETERMINATE : Sta Z h0 "com/example/tributary/tributary/AccessList$Decision" "INDETERMINATE" "Lcom/example/tributary/tributary/AccessList$Decision;" (.ref w_INDETERMINATE)) (n_w_INDETERMINATE_w_PERMIT : ¬ (w_INDETERMINATE = w_PERMIT)) (V_b15 : Arv Z h0 b15 k15 .int (27 : Int32) [(.int 0), (.int 1), (.int 0), (.int 0), (.int 1), (.int 1), (.int 0), (.int 1), (.int 2), (.int 0), (.int 0), (.int 0), (.int 1), (.int 1), (.int 1), (.int 0), (.int 1), (.int 2), (.int 0), (.int 1), (.int 1), (.int 1), (.int 1), (.int 1), (.int 1), (.int 1), (.int 1)] (.int (0 : Int32))) :
    ∃ (T' : State) (L' : List Loc) (Ls : Array Slot), Stand p l e room_1 s m args below meth c T' L' 3 33 ∧ Fr n0 L' ∧ ∀ target, Steps p.tables e below (T'.setTop (mkF m 253 Ls [(.int 1)])) target → Steps p.tables e below (T0.setTop (mkF m 206 #[.val (.int p1), .val (.int p2), .val (.int p3), .val (.int 0), .val (.int 2), .val (.int 0), .val (.ref b1), .val (.ref b8), .val (.ref b15), .unset] [])) target := by
  obtain ⟨cq1, kq1, q1a, q1b, q1c⟩ := isOf hZ e0 E_w_CHILD_OVERRIDES
  obtain ⟨_, _, ⟨T1, L1, k1, n1⟩, -, X1, ⟨Lc1, hQ1, l1, y1, z1⟩, st1⟩ := X0.virtualBack hx (y := (⟨"com/example/tributary/tributary/AccessList$InheritanceType", "combine", "(Lcom/example/tributary/tributary/AccessList$Decision;Lcom/example/tributary/tributary/AccessList$Decision;)Lcom/example/tributary/tributary/AccessList$Decision;"⟩ : MethodName)) (z := (⟨"com/example/tributary/tributary/AccessList$InheritanceType", "combine", "(Lcom/example/tributary/tributary/AccessList$Decision;Lcom/example/tributary/tributary/AccessList$Decision;)Lcom/example/tributary/tributary/AccessList$Decision;"⟩ : MethodName)) hown (mvT hZ (hw _ (List.mem_of_getElem? (i := 22) rfl))) (mvT hZ (hw _ (List.mem_of_getElem? (i := 23) rfl))) (notFace_of_selects (args := #[]) (mvT hZ (hw _ (List.mem_of_getElem? (i := 25) rfl)))) (mvT hZ (hw _ (List.mem_of_getElem? (i := 25) rfl))) (mvT hZ (hw _ (List.mem_of_getElem? (i := 24) rfl))) (by decide) (backOf (W := 0) (rm1_w_CHILD_OVERRIDES_w_INDETERMINATE_w_PERMIT l Z a0 hw [] w_CHILD_OVERRIDES w_INDETERMINATE w_PERMIT h0 n0 Z0 F_ordinal_w_CHILD_OVERRIDES E_w_CHILD_OVERRIDES S_INDETERMINATE n_w_INDETERMINATE_w_PERMIT) hZ (hw _ (List.mem_of_getElem? (i := 26) rfl)) (hw _ (List.mem_of_getElem? (i := 4) rfl)) (by decide) (by decide)) q1a q1c (g := (mkF m 220 #[.val (.int p1), .val (.int p2), .val (.int p3), .val (.int 0), .val (.int 2), .val (.int 0), .val (.ref b1), .val (.ref b8), .val (.ref b15), .unset] [(.ref w_PERMIT), (.ref w_INDETERMINATE), (.ref w_CHILD_OVERRIDES)])) rfl (by rw [hml]; rfl) (Steps.refl _) (argsL := [(.ref w_INDETERMINATE), (.ref w_PERMIT)]) (rest := []) (lenOf pd__Lcom_example_tributary_tributary_AccessList_Decision_Lcom_example_tributary_tributary_AccessList_Decision__Lcom_example_tributary_tributary_AccessList_Decision_ rfl) rfl (by show 2 * 0 + _ ≤ _; exact Nat.le_of_eq rfl) (hb hby at_220) (fun _ _ => ⟨rfl, e0, (by decide : 3 + 0 ≤ _), (by decide : 33 + 0 ≤ _)⟩)
  dsimp only [Pt.U, Pt.locs, Pt.cells, Pt.slots] at X1 l1 y1 z1 st1 hQ1
  subst l1 y1 z1
  obtain ⟨rfl, N1q, e1⟩ := hQ1
  have N1 := Fr.app N0 N1q
  refine ⟨T1, _, #[.val (.int p1), .val (.int p2), .val (.int p3), .val (.int 0), .val (.int 2), .val (.int 0), .val (.ref b1), .val (.ref b8), .val (.ref b15), .val (.ref w_PERMIT)], X1, N1, fun target kt => ?_⟩
  show Steps p.tables e below (T0.setTop (mkF m 206 #[.val (.int p1), .val (.int p2), .val (.int p3), .val (.int 0), .val (.int 2), .val (.int 0), .val (.ref b1), .val (.ref b8), .val (.ref b15), .unset] [])) _
  refine XS.aload X0.here hx rfl (hb hby at_206) rfl rfl ?_
  show Steps p.tables e below (T0.setTop (mkF m 208 #[.val (.int p1), .val (.int p2), .val (.int p3), .val (.int 0), .val (.int 2), .val (.int 0), .val (.ref b1), .val (.ref b8), .val (.ref b15), .unset] [(.ref b1)])) _
  refine XS.iloadN X0.here hx rfl (hb hby at_208) rfl ?_
  show Steps p.tables e below (T0.setTop (mkF m 209 #[.val (.int p1), .val (.int p2), .val (.int p3), .val (.int 0), .val (.int 2), .val (.int 0), .val (.ref b1), .val (.ref b8), .val (.ref b15), .unset] [(.int 0), (.ref b1)])) _
  refine own_ldR X0 hx hZ e0 V_b1 (j := (0 : Int32)) ⟨by decide, by decide⟩ rfl (g := (mkF m 209 #[.val (.int p1), .val (.int p2), .val (.int p3), .val (.int 0), .val (.int 2), .val (.int 0), .val (.ref b1), .val (.ref b8), .val (.ref b15), .unset] [(.int 0), (.ref b1)])) rfl rfl (hb hby at_209) _ ?_
  show Steps p.tables e below (T0.setTop (mkF m 210 #[.val (.int p1), .val (.int p2), .val (.int p3), .val (.int 0), .val (.int 2), .val (.int 0), .val (.ref b1), .val (.ref b8), .val (.ref b15), .unset] [(.ref w_CHILD_OVERRIDES)])) _
  refine XS.aload X0.here hx rfl (hb hby at_210) rfl rfl ?_
  show Steps p.tables e below (T0.setTop (mkF m 212 #[.val (.int p1), .val (.int p2), .val (.int p3), .val (.int 0), .val (.int 2), .val (.int 0), .val (.ref b1), .val (.ref b8), .val (.ref b15), .unset] [(.ref b8), (.ref w_CHILD_OVERRIDES)])) _
  refine XS.iload X0.here hx rfl (hb hby at_212) rfl ?_
  show Steps p.tables e below (T0.setTop (mkF m 214 #[.val (.int p1), .val (.int p2), .val (.int p3), .val (.int 0), .val (.int 2), .val (.int 0), .val (.ref b1), .val (.ref b8), .val (.ref b15), .unset] [(.int 2), (.ref b8), (.ref w_CHILD_OVERRIDES)])) _
  refine own_ldR X0 hx hZ e0 V_b8 (j := (2 : Int32)) ⟨by decide, by decide⟩ rfl (g := (mkF m 214 #[.val (.int p1), .val (.int p2), .val (.int p3), .val (.int 0), .val (.int 2), .val (.int 0), .val (.ref b1), .val (.ref b8), .val (.ref b15), .unset] [(.int 2), (.ref b8), (.ref w_CHILD_OVERRIDES)])) rfl rfl (hb hby at_214) _ ?_
  show Steps p.tables e below (T0.setTop (mkF m 215 #[.val (.int p1), .val (.int p2), .val (.int p3), .val (.int 0), .val (.int 2), .val (.int 0), .val (.ref b1), .val (.ref b8), .val (.ref b15), .unset] [(.ref w_INDETERMINATE), (.ref w_CHILD_OVERRIDES)])) _
  refine XS.aload X0.here hx rfl (hb hby at_215) rfl rfl ?_
  show Steps p.tables e below (T0.setTop (mkF m 217 #[.val (.int p1), .val (.int p2), .val (.int p3), .val (.int 0), .val (.int 2), .val (.int 0), .val (.ref b1), .val (.ref b8), .val (.ref b15), .unset] [(.ref b8), (.ref w_INDETERMINATE), (.ref w_CHILD_OVERRIDES)])) _
  refine XS.iload X0.here hx rfl (hb hby at_217) rfl ?_
  show Steps p.tables e below (T0.setTop (mkF m 219 #[.val (.int p1), .val (.int p2), .val (.int p3), .val (.int 0), .val (.int 2), .val (.int 0), .val (.ref b1), .val (.ref b8), .val (.ref b15), .unset] [(.int 0), (.ref b8), (.ref w_INDETERMINATE), (.ref w_CHILD_OVERRIDES)])) _
  refine own_ldR X0 hx hZ e0 V_b8 (j := (0 : Int32)) ⟨by decide, by decide⟩ rfl (g := (mkF m 219 #[.val (.int p1), .val (.int p2), .val (.int p3), .val (.int 0), .val (.int 2), .val (.int 0), .val (.ref b1), .val (.ref b8), .val (.ref b15), .unset] [(.int 0), (.ref b8), (.ref w_INDETERMINATE), (.ref w_CHILD_OVERRIDES)])) rfl rfl (hb hby at_219) _ ?_
  show Steps p.tables e below (T0.setTop (mkF m 220 #[.val (.int p1), .val (.int p2), .val (.int p3), .val (.int 0), .val (.int 2), .val (.int 0), .val (.ref b1), .val (.ref b8), .val (.ref b15), .unset] [(.ref w_PERMIT), (.ref w_INDETERMINATE), (.ref w_CHILD_OVERRIDES)])) _
  refine st1.trans ?_
  show Steps p.tables e below (T1.setTop (mkF m 223 #[.val (.int p1), .val (.int p2), .val (.int p3), .val (.int 0), .val (.int 2), .val (.int 0), .val (.ref b1), .val (.ref b8), .val (.ref b15), .unset] [(.ref w_PERMIT)])) _
  refine XS.astore X1.here hx rfl (hb hby at_223) rfl rfl (l' := #[.val (.int p1), .val (.int p2), .val (.int p3), .val (.int 0), .val (.int 2), .val (.int 0), .val (.ref b1), .val (.ref b8), .val (.ref b15), .val (.ref w_PERMIT)]) rfl ?_
  show Steps p.tables e below (T1.setTop (mkF m 225 #[.val (.int p1), .val (.int p2), .val (.int p3), .val (.int 0), .val (.int 2), .val (.int 0), .val (.ref b1), .val (.ref b8), .val (.ref b15), .val (.ref w_PERMIT)] [])) _
  refine XS.aload X1.here hx rfl (hb hby at_225) rfl rfl ?_
  show Steps p.tables e below (T1.setTop (mkF m 227 #[.val (.int p1), .val (.int p2), .val (.int p3), .val (.int 0), .val (.int 2), .val (.int 0), .val (.ref b1), .val (.ref b8), .val (.ref b15), .val (.ref w_PERMIT)] [(.ref w_PERMIT)])) _
  refine XS.aload X1.here hx rfl (hb hby at_227) rfl rfl ?_
  show Steps p.tables e below (T1.setTop (mkF m 229 #[.val (.int p1), .val (.int p2), .val (.int p3), .val (.int 0), .val (.int 2), .val (.int 0), .val (.ref b1), .val (.ref b8), .val (.ref b15), .val (.ref w_PERMIT)] [(.ref b8), (.ref w_PERMIT)])) _
  refine XS.aload X1.here hx rfl (hb hby at_229) rfl rfl ?_
  show Steps p.tables e below (T1.setTop (mkF m 231 #[.val (.int p1), .val (.int p2), .val (.int p3), .val (.int 0), .val (.int 2), .val (.int 0), .val (.ref b1), .val (.ref b8), .val (.ref b15), .val (.ref w_PERMIT)] [(.ref b15), (.ref b8), (.ref w_PERMIT)])) _
  refine XS.iloadN X1.here hx rfl (hb hby at_231) rfl ?_
  show Steps p.tables e below (T1.setTop (mkF m 232 #[.val (.int p1), .val (.int p2), .val (.int p3), .val (.int 0), .val (.int 2), .val (.int 0), .val (.ref b1), .val (.ref b8), .val (.ref b15), .val (.ref w_PERMIT)] [(.int 0), (.ref b15), (.ref b8), (.ref w_PERMIT)])) _
  refine XS.bipush X1.here hx rfl (hb hby at_232) ?_
  show Steps p.tables e below (T1.setTop (mkF m 234 #[.val (.int p1), .val (.int p2), .val (.int p3), .val (.int 0), .val (.int 2), .val (.int 0), .val (.ref b1), .val (.ref b8), .val (.ref b15), .val (.ref w_PERMIT)] [(.int 9), (.int 0), (.ref b15), (.ref b8), (.ref w_PERMIT)])) _
  refine XS.imul X1.here hx rfl (hb hby at_234) rfl ?_
  show Steps p.tables e below (T1.setTop (mkF m 235 #[.val (.int p1), .val (.int p2), .val (.int p3), .val (.int 0), .val (.int 2), .val (.int 0), .val (.ref b1), .val (.ref b8), .val (.ref b15), .val (.ref w_PERMIT)] [(.int ((0 : Int32) * (9 : Int32))), (.ref b15), (.ref b8), (.ref w_PERMIT)])) _
  rw [(by decide : ((0 : Int32) * (9 : Int32)) = (0 : Int32))]
  show Steps p.tables e below (T1.setTop (mkF m 235 #[.val (.int p1), .val (.int p2), .val (.int p3), .val (.int 0), .val (.int 2), .val (.int 0), .val (.ref b1), .val (.ref b8), .val (.ref b15), .val (.ref w_PERMIT)] [(.int 0), (.ref b15), (.ref b8), (.ref w_PERMIT)])) _
  refine XS.iload X1.here hx rfl (hb hby at_235) rfl ?_
  show Steps p.tables e below (T1.setTop (mkF m 237 #[.val (.int p1), .val (.int p2), .val (.int p3), .val (.int 0), .val (.int 2), .val (.int 0), .val (.ref b1), .val (.ref b8), .val (.ref b15), .val (.ref w_PERMIT)] [(.int 2), (.int 0), (.ref b15), (.ref b8), (.ref w_PERMIT)])) _
  refine XS.iconst X1.here hx rfl (hb hby at_237) ?_
  show Steps p.tables e below (T1.setTop (mkF m 238 #[.val (.int p1), .val (.int p2), .val (.int p3), .val (.int 0), .val (.int 2), .val (.int 0), .val (.ref b1), .val (.ref b8), .val (.ref b15), .val (.ref w_PERMIT)] [(.int 3), (.int 2), (.int 0), (.ref b15), (.ref b8), (.ref w_PERMIT)])) _
  refine XS.imul X1.here hx rfl (hb hby at_238) rfl ?_
  show Steps p.tables e below (T1.setTop (mkF m 239 #[.val (.int p1), .val (.int p2), .val (.int p3), .val (.int 0), .val (.int 2), .val (.int 0), .val (.ref b1), .val (.ref b8), .val (.ref b15), .val (.ref w_PERMIT)] [(.int ((2 : Int32) * (3 : Int32))), (.int 0), (.ref b15), (.ref b8), (.ref w_PERMIT)])) _
  rw [(by decide : ((2 : Int32) * (3 : Int32)) = (6 : Int32))]
  show Steps p.tables e below (T1.setTop (mkF m 239 #[.val (.int p1), .val (.int p2), .val (.int p3), .val (.int 0), .val (.int 2), .val (.int 0), .val (.ref b1), .val (.ref b8), .val (.ref b15), .val (.ref w_PERMIT)] [(.int 6), (.int 0), (.ref b15), (.ref b8), (.ref w_PERMIT)])) _
  refine XS.iadd X1.here hx rfl (hb hby at_239) rfl ?_
  show Steps p.tables e below (T1.setTop (mkF m 240 #[.val (.int p1), .val (.int p2), .val (.int p3), .val (.int 0), .val (.int 2), .val (.int 0), .val (.ref b1), .val (.ref b8), .val (.ref b15), .val (.ref w_PERMIT)] [(.int ((0 : Int32) + (6 : Int32))), (.ref b15), (.ref b8), (.ref w_PERMIT)])) _
  rw [(by decide : ((0 : Int32) + (6 : Int32)) = (6 : Int32))]
  show Steps p.tables e below (T1.setTop (mkF m 240 #[.val (.int p1), .val (.int p2), .val (.int p3), .val (.int 0), .val (.int 2), .val (.int 0), .val (.ref b1), .val (.ref b8), .val (.ref b15), .val (.ref w_PERMIT)] [(.int 6), (.ref b15), (.ref b8), (.ref w_PERMIT)])) _
  refine XS.iload X1.here hx rfl (hb hby at_240) rfl ?_
  show Steps p.tables e below (T1.setTop (mkF m 242 #[.val (.int p1), .val (.int p2), .val (.int p3), .val (.int 0), .val (.int 2), .val (.int 0), .val (.ref b1), .val (.ref b8), .val (.ref b15), .val (.ref w_PERMIT)] [(.int 0), (.int 6), (.ref b15), (.ref b8), (.ref w_PERMIT)])) _
  refine XS.iadd X1.here hx rfl (hb hby at_242) rfl ?_
  show Steps p.tables e below (T1.setTop (mkF m 243 #[.val (.int p1), .val (.int p2), .val (.int p3), .val (.int 0), .val (.int 2), .val (.int 0), .val (.ref b1), .val (.ref b8), .val (.ref b15), .val (.ref w_PERMIT)] [(.int ((6 : Int32) + (0 : Int32))), (.ref b15), (.ref b8), (.ref w_PERMIT)])) _
  rw [(by decide : ((6 : Int32) + (0 : Int32)) = (6 : Int32))]
  show Steps p.tables e below (T1.setTop (mkF m 243 #[.val (.int p1), .val (.int p2), .val (.int p3), .val (.int 0), .val (.int 2), .val (.int 0), .val (.ref b1), .val (.ref b8), .val (.ref b15), .val (.ref w_PERMIT)] [(.int 6), (.ref b15), (.ref b8), (.ref w_PERMIT)])) _
  refine own_ldI X1 hx hZ e1 V_b15 (j := (6 : Int32)) ⟨by decide, by decide⟩ rfl (g := (mkF m 243 #[.val (.int p1), .val (.int p2), .val (.int p3), .val (.int 0), .val (.int 2), .val (.int 0), .val (.ref b1), .val (.ref b8), .val (.ref b15), .val (.ref w_PERMIT)] [(.int 6), (.ref b15), (.ref b8), (.ref w_PERMIT)])) rfl rfl (hb hby at_243) _ ?_
  show Steps p.tables e below (T1.setTop (mkF m 244 #[.val (.int p1), .val (.int p2), .val (.int p3), .val (.int 0), .val (.int 2), .val (.int 0), .val (.ref b1), .val (.ref b8), .val (.ref b15), .val (.ref w_PERMIT)] [(.int 0), (.ref b8), (.ref w_PERMIT)])) _
  refine own_ldR X1 hx hZ e1 V_b8 (j := (0 : Int32)) ⟨by decide, by decide⟩ rfl (g := (mkF m 244 #[.val (.int p1), .val (.int p2), .val (.int p3), .val (.int 0), .val (.int 2), .val (.int 0), .val (.ref b1), .val (.ref b8), .val (.ref b15), .val (.ref w_PERMIT)] [(.int 0), (.ref b8), (.ref w_PERMIT)])) rfl rfl (hb hby at_244) _ ?_
  show Steps p.tables e below (T1.setTop (mkF m 245 #[.val (.int p1), .val (.int p2), .val (.int p3), .val (.int 0), .val (.int 2), .val (.int 0), .val (.ref b1), .val (.ref b8), .val (.ref b15), .val (.ref w_PERMIT)] [(.ref w_PERMIT), (.ref w_PERMIT)])) _
  refine Jvm.RoadKit.acmp (g := (mkF m 245 #[.val (.int p1), .val (.int p2), .val (.int p3), .val (.int 0), .val (.int 2), .val (.int 0), .val (.ref b1), .val (.ref b8), .val (.ref b15), .val (.ref w_PERMIT)] [(.ref w_PERMIT), (.ref w_PERMIT)])) X1 hx rfl rfl rfl (pc0 := 245) (pc' := 248) (same := true) rfl (hb hby at_245) rfl (decide_eq_true rfl) (by decide) (by decide) ?_
  show Steps p.tables e below (T1.setTop (mkF m 248 #[.val (.int p1), .val (.int p2), .val (.int p3), .val (.int 0), .val (.int 2), .val (.int 0), .val (.ref b1), .val (.ref b8), .val (.ref b15), .val (.ref w_PERMIT)] [])) _
  refine XS.iconst X1.here hx rfl (hb hby at_248) ?_
  show Steps p.tables e below (T1.setTop (mkF m 249 #[.val (.int p1), .val (.int p2), .val (.int p3), .val (.int 0), .val (.int 2), .val (.int 0), .val (.ref b1), .val (.ref b8), .val (.ref b15), .val (.ref w_PERMIT)] [(.int 1)])) _
  refine XS.goto X1.here hx rfl (pc0 := 249) (pc' := 253) rfl (hb hby at_249) (by decide) (by decide) ?_
  show Steps p.tables e below (T1.setTop (mkF m 253 #[.val (.int p1), .val (.int p2), .val (.int p3), .val (.int 0), .val (.int 2), .val (.int 0), .val (.ref b1), .val (.ref b8), .val (.ref b15), .val (.ref w_PERMIT)] [(.int 1)])) _
  exact kt
def Q1_w_CHILD_OVERRIDES_w_INDETERMINATE_w_DENY (Z : State) (w_CHILD_OVERRIDES : Addr) (w_INDETERMINATE : Addr) (w_DENY : Addr) (h0 : Heap) (n0 : Nat) (v : Option Value) (h : Heap) (L : List Loc) : Prop := v = some (.ref w_DENY) ∧ Fr n0 L ∧ h = h0
set_option maxRecDepth 65536 in
set_option maxHeartbeats 40000000 in
theorem rm1_w_CHILD_OVERRIDES_w_INDETERMINATE_w_DENY (l : Launch) (Z : State) (a0 : Array Value) (hw : ∀ d ∈ tables_1, d.before a0 Z = true) (ws : List Jvm.Cond) (w_CHILD_OVERRIDES : Addr) (w_INDETERMINATE : Addr) (w_DENY : Addr) (h0 : Heap) (n0 : Nat) (Z0 : n0 ≤ h0.size) (F_ordinal_w_CHILD_OVERRIDES : Fld Z h0 w_CHILD_OVERRIDES "java/lang/Enum" "ordinal" "I" (.int 0)) (E_w_CHILD_OVERRIDES : Exa Z h0 w_CHILD_OVERRIDES "com/example/tributary/tributary/AccessList$InheritanceType") (S_INDETERMINATE : Sta Z h0 "com/example/tributary/tributary/AccessList$Decision" "INDETERMINATE" "Lcom/example/tributary/tributary/AccessList$Decision;" (.ref w_INDETERMINATE)) (n_w_DENY_w_INDETERMINATE : ¬ (w_DENY = w_INDETERMINATE)) :
    MetFree l (⟨"com/example/tributary/tributary/AccessList$InheritanceType", "combine", "(Lcom/example/tributary/tributary/AccessList$Decision;Lcom/example/tributary/tributary/AccessList$Decision;)Lcom/example/tributary/tributary/AccessList$Decision;"⟩ : MethodName) (head1 (Jvm.Cond.code (⟨"com/example/tributary/tributary/AccessList$InheritanceType", "combine", "(Lcom/example/tributary/tributary/AccessList$Decision;Lcom/example/tributary/tributary/AccessList$Decision;)Lcom/example/tributary/tributary/AccessList$Decision;"⟩ : MethodName) prog_6_method_4_code 3 (some (.object "com/example/tributary/tributary/AccessList$Decision")) :: ws) ({ frames := 1, cells := 0, slots := 0, locals := 12 } : Room)) (fun a U => a = #[(.ref w_CHILD_OVERRIDES), (.ref w_INDETERMINATE), (.ref w_DENY)] ∧ Z.Warmed39 U.vm ∧ U.heap = h0) (fun _ _ _ _ _ => True) (fun _ U o U' => ∃ v L, o = .returned v ∧ Q1_w_CHILD_OVERRIDES_w_INDETERMINATE_w_DENY Z w_CHILD_OVERRIDES w_INDETERMINATE w_DENY h0 n0 v U'.heap L ∧ FrameEnd U o U' L ({ frames := 1, cells := 0, slots := 0, locals := 12 } : Room).cells ({ frames := 1, cells := 0, slots := 0, locals := 12 } : Room).slots) := by
  refine MetFree.of_bodySF (plainFor_of_name pn_1) hisR ?_
  intro p e s m args below meth c s₁ Bd hml0 hP hK
  obtain ⟨rfl, hZ, hh⟩ := hP
  have hx := Bd.exec
  have hby := Bd.bytes
  have hml : c.maxLocals = 3 := hml0
  have hown : s.vm.findClass "com/example/tributary/tributary/AccessList$InheritanceType" = some m.cls := findClass_of_methodNamed Bd.named
  have hnm := (name_of_methodNamed Bd.named Bd.method).1
  have X0 : Stand p l e ({ frames := 1, cells := 0, slots := 0, locals := 12 } : Room) s m #[(.ref w_CHILD_OVERRIDES), (.ref w_INDETERMINATE), (.ref w_DENY)] below meth c s₁ [] 0 0 := Stand.of_body Bd
  have e0 : s₁.heap = h0 := by rw [← hh, Bd.state]; rfl
  have N0 := Fr.nil n0
  have pre0 : ∀ t, Steps p.tables e below (s₁.setTop (mkF m 0 #[.val (.ref w_CHILD_OVERRIDES), .val (.ref w_INDETERMINATE), .val (.ref w_DENY)] [])) t → Steps p.tables e below (s₁.setTop (entryFrame m #[(.ref w_CHILD_OVERRIDES), (.ref w_INDETERMINATE), (.ref w_DENY)] 3)) t := fun t k => castTop (by first | (simp [entryFrame, mkF, argsToLocals, Value.category]; done) | rfl) k
  obtain ⟨cq1, kq1, q1a, q1b, q1c⟩ := isOf hZ e0 E_w_CHILD_OVERRIDES
  obtain ⟨_, _, ⟨T1, L1, k1, n1⟩, -, X1, ⟨Lc1, hQ1, l1, y1, z1⟩, st1⟩ := X0.virtualBackUp hx (x := (⟨"com/example/tributary/tributary/AccessList$InheritanceType", "ordinal", "()I"⟩ : MethodName)) (y := (⟨"java/lang/Enum", "ordinal", "()I"⟩ : MethodName)) (owner := "java/lang/Enum") hown (mvT hZ (hw _ (List.mem_of_getElem? (i := 27) rfl))) (mvT hZ (hw _ (List.mem_of_getElem? (i := 28) rfl))) (mvT hZ (hw _ (List.mem_of_getElem? (i := 29) rfl))) (by decide) (mvT hZ (hw _ (List.mem_of_getElem? (i := 31) rfl))) (mvT hZ (hw _ (List.mem_of_getElem? (i := 30) rfl))) (backOf (W := 0) (rm2_w_CHILD_OVERRIDES l Z a0 hw [] w_CHILD_OVERRIDES h0 n0 Z0 F_ordinal_w_CHILD_OVERRIDES) hZ (hw _ (List.mem_of_getElem? (i := 33) rfl)) (hw _ (List.mem_of_getElem? (i := 32) rfl)) (by decide) (by decide)) q1a q1c (g := (mkF m 1 #[.val (.ref w_CHILD_OVERRIDES), .val (.ref w_INDETERMINATE), .val (.ref w_DENY)] [(.ref w_CHILD_OVERRIDES)])) rfl (by rw [hml]; rfl) (Steps.refl _) (argsL := []) (rest := []) (lenOf pd___I rfl) rfl (by show 2 * 0 + _ ≤ _; exact Nat.le_of_eq rfl) (hb hby d1_1) (fun _ _ => ⟨rfl, e0, (by decide : 0 + 0 ≤ _), (by decide : 0 + 0 ≤ _)⟩)
  dsimp only [Pt.U, Pt.locs, Pt.cells, Pt.slots] at X1 l1 y1 z1 st1 hQ1
  subst l1 y1 z1
  obtain ⟨rfl, N1q, e1⟩ := hQ1
  have N1 := Fr.app N0 N1q
  obtain ⟨T2, X2, e2, st2⟩ := getS2 X1 hx hZ hown (host := "") (Or.inl (hw _ (List.mem_of_getElem? (i := 36) rfl))) Via.refl e1 S_INDETERMINATE (g := (mkF m 47 #[.val (.ref w_CHILD_OVERRIDES), .val (.ref w_INDETERMINATE), .val (.ref w_DENY)] [(.ref w_DENY)])) rfl (hb hby d1_47)
  obtain ⟨fs, hr, hrun, hended, hW, hsame⟩ := X2.leave (v := some (.ref w_DENY)) (fun h => by rw [Bd.returns] at h; cases h)
  refine ⟨_, _, pre0 _ ?_, hrun, hended, _, _, rfl, ?_, ⟨_, rfl⟩, hW, hsame.mono (by decide) (by decide)⟩
  · show Steps p.tables e below (s₁.setTop (mkF m 0 #[.val (.ref w_CHILD_OVERRIDES), .val (.ref w_INDETERMINATE), .val (.ref w_DENY)] [])) _
    refine XS.aloadN X0.here hx rfl (hb hby d1_0) rfl rfl ?_
    show Steps p.tables e below (s₁.setTop (mkF m 1 #[.val (.ref w_CHILD_OVERRIDES), .val (.ref w_INDETERMINATE), .val (.ref w_DENY)] [(.ref w_CHILD_OVERRIDES)])) _
    refine st1.trans ?_
    show Steps p.tables e below (T1.setTop (mkF m 4 #[.val (.ref w_CHILD_OVERRIDES), .val (.ref w_INDETERMINATE), .val (.ref w_DENY)] [(.int 0)])) _
    refine XS.tswIn X1.here hx rfl (pc0 := 4) (pc' := 46) rfl (hb hby d1_4) rfl (by decide) (o := 42) (by decide) (by decide) (by decide) ?_
    show Steps p.tables e below (T1.setTop (mkF m 46 #[.val (.ref w_CHILD_OVERRIDES), .val (.ref w_INDETERMINATE), .val (.ref w_DENY)] [])) _
    refine XS.aloadN X1.here hx rfl (hb hby d1_46) rfl rfl ?_
    show Steps p.tables e below (T1.setTop (mkF m 47 #[.val (.ref w_CHILD_OVERRIDES), .val (.ref w_INDETERMINATE), .val (.ref w_DENY)] [(.ref w_DENY)])) _
    refine st2 _ ?_
    show Steps p.tables e below (T2.setTop (mkF m 50 #[.val (.ref w_CHILD_OVERRIDES), .val (.ref w_INDETERMINATE), .val (.ref w_DENY)] [(.ref w_INDETERMINATE), (.ref w_DENY)])) _
    refine Jvm.RoadKit.acmp (g := (mkF m 50 #[.val (.ref w_CHILD_OVERRIDES), .val (.ref w_INDETERMINATE), .val (.ref w_DENY)] [(.ref w_INDETERMINATE), (.ref w_DENY)])) X2 hx rfl rfl rfl (pc0 := 50) (pc' := 57) (same := false) rfl (hb hby d1_50) rfl (decide_eq_false fun q => n_w_DENY_w_INDETERMINATE (Value.ref.inj q)) (by decide) (by decide) ?_
    show Steps p.tables e below (T2.setTop (mkF m 57 #[.val (.ref w_CHILD_OVERRIDES), .val (.ref w_INDETERMINATE), .val (.ref w_DENY)] [])) _
    refine XS.aloadN X2.here hx rfl (hb hby d1_57) rfl rfl ?_
    show Steps p.tables e below (T2.setTop (mkF m 58 #[.val (.ref w_CHILD_OVERRIDES), .val (.ref w_INDETERMINATE), .val (.ref w_DENY)] [(.ref w_DENY)])) _
    refine XS.goto X2.here hx rfl (pc0 := 58) (pc' := 112) rfl (hb hby d1_58) (by decide) (by decide) ?_
    show Steps p.tables e below (T2.setTop (mkF m 112 #[.val (.ref w_CHILD_OVERRIDES), .val (.ref w_INDETERMINATE), .val (.ref w_DENY)] [(.ref w_DENY)])) _
    jvm_step X2.here [X2.here.top, hx, (hb hby d1_112), X2.method', Bd.returns, Value.isRef, FieldType.isReference]
    first | (intro acts; rw [hr _ acts rfl rfl rfl]) | rw [hr _ _ rfl rfl rfl]
    exact Steps.refl _
  · show Q1_w_CHILD_OVERRIDES_w_INDETERMINATE_w_DENY Z w_CHILD_OVERRIDES w_INDETERMINATE w_DENY h0 n0 _ T2.heap _
    rw [e2]
    exact ⟨rfl, N1, rfl⟩
set_option maxRecDepth 65536 in
set_option maxHeartbeats 40000000 in
theorem pc0_k021 {p : Program} {l : Launch} {e : Env} {s : State} {m : MethodId} {args : Array Value} {below : List Frame} {meth : Method} {c : Code} {T0 : State} {locs : List Loc} {Z : State} {a0 : Array Value} {h0 : Heap} {n0 : Nat} (p1 : Int32) (p2 : Int32) (p3 : Int32) (b1 : Addr) (b8 : Addr) (b15 : Addr) (k1 : ClassId) (w_CHILD_OVERRIDES : Addr) (w_PARENT_OVERRIDES : Addr) (w_AND_BOTH_PERMIT : Addr) (k8 : ClassId) (w_PERMIT : Addr) (w_DENY : Addr) (w_INDETERMINATE : Addr) (k15 : ClassId)
    (X0 : Stand p l e room_1 s m args below meth c T0 locs 3 33) (hx : p.tables.exec = Jvm.exec) (hZ : Z.Warmed39 s.vm) (hw : ∀ d ∈ tables_1, d.before a0 Z = true) (hby : c.code = code) (hml : c.maxLocals = 10) (hown : s.vm.findClass "com/example/tributary/tributary/InheritanceTypeCombinePinLaw" = some m.cls) (e0 : T0.heap = h0) (Z0 : n0 ≤ h0.size) (N0 : Fr n0 locs) (V_b1 : Arv Z h0 b1 k1 (.object "com/example/tributary/tributary/AccessList$InheritanceType") (3 : Int32) [(.ref w_CHILD_OVERRIDES), (.ref w_PARENT_OVERRIDES), (.ref w_AND_BOTH_PERMIT)] .null) (V_b8 : Arv Z h0 b8 k8 (.object "com/example/tributary/tributary/AccessList$Decision") (3 : Int32) [(.ref w_PERMIT), (.ref w_DENY), (.ref w_INDETERMINATE)] .null) (F_ordinal_w_CHILD_OVERRIDES : Fld Z h0 w_CHILD_OVERRIDES "java/lang/Enum" "ordinal" "I" (.int 0)) (E_w_CHILD_OVERRIDES : Exa Z h0 w_CHILD_OVERRIDES "com/example/tributary/tributary/AccessList$InheritanceType") (S_INDETERMINATE : Sta Z h0 "com/example/tributary/tributary/AccessList$Decision" "INDETERMINATE" "Lcom/example/tributary/tributary/AccessList$Decision;" (.ref w_INDETERMINATE)) (n_w_DENY_w_INDETERMINATE : ¬ (w_DENY = w_INDETERMINATE)) (V_b15 : Arv Z h0 b15 k15 .int (27 : Int32) [(.int 0), (.int 1), (.int 0), (.int 0), (.int 1), (.int 1), (.int 0), (.int 1), (.int 2), (.int 0), (.int 0), (.int 0), (.int 1), (.int 1), (.int 1), (.int 0), (.int 1), (.int 2), (.int 0), (.int 1), (.int 1), (.int 1), (.int 1), (.int 1), (.int 1), (.int 1), (.int 1)] (.int (0 : Int32))) :
    ∃ (T' : State) (L' : List Loc) (Ls : Array Slot), Stand p l e room_1 s m args below meth c T' L' 3 33 ∧ Fr n0 L' ∧ ∀ target, Steps p.tables e below (T'.setTop (mkF m 253 Ls [(.int 1)])) target → Steps p.tables e below (T0.setTop (mkF m 206 #[.val (.int p1), .val (.int p2), .val (.int p3), .val (.int 0), .val (.int 2), .val (.int 1), .val (.ref b1), .val (.ref b8), .val (.ref b15), .unset] [])) target := by
  obtain ⟨cq1, kq1, q1a, q1b, q1c⟩ := isOf hZ e0 E_w_CHILD_OVERRIDES
  obtain ⟨_, _, ⟨T1, L1, k1, n1⟩, -, X1, ⟨Lc1, hQ1, l1, y1, z1⟩, st1⟩ := X0.virtualBack hx (y := (⟨"com/example/tributary/tributary/AccessList$InheritanceType", "combine", "(Lcom/example/tributary/tributary/AccessList$Decision;Lcom/example/tributary/tributary/AccessList$Decision;)Lcom/example/tributary/tributary/AccessList$Decision;"⟩ : MethodName)) (z := (⟨"com/example/tributary/tributary/AccessList$InheritanceType", "combine", "(Lcom/example/tributary/tributary/AccessList$Decision;Lcom/example/tributary/tributary/AccessList$Decision;)Lcom/example/tributary/tributary/AccessList$Decision;"⟩ : MethodName)) hown (mvT hZ (hw _ (List.mem_of_getElem? (i := 22) rfl))) (mvT hZ (hw _ (List.mem_of_getElem? (i := 23) rfl))) (notFace_of_selects (args := #[]) (mvT hZ (hw _ (List.mem_of_getElem? (i := 25) rfl)))) (mvT hZ (hw _ (List.mem_of_getElem? (i := 25) rfl))) (mvT hZ (hw _ (List.mem_of_getElem? (i := 24) rfl))) (by decide) (backOf (W := 0) (rm1_w_CHILD_OVERRIDES_w_INDETERMINATE_w_DENY l Z a0 hw [] w_CHILD_OVERRIDES w_INDETERMINATE w_DENY h0 n0 Z0 F_ordinal_w_CHILD_OVERRIDES E_w_CHILD_OVERRIDES S_INDETERMINATE n_w_DENY_w_INDETERMINATE) hZ (hw _ (List.mem_of_getElem? (i := 26) rfl)) (hw _ (List.mem_of_getElem? (i := 4) rfl)) (by decide) (by decide)) q1a q1c (g := (mkF m 220 #[.val (.int p1), .val (.int p2), .val (.int p3), .val (.int 0), .val (.int 2), .val (.int 1), .val (.ref b1), .val (.ref b8), .val (.ref b15), .unset] [(.ref w_DENY), (.ref w_INDETERMINATE), (.ref w_CHILD_OVERRIDES)])) rfl (by rw [hml]; rfl) (Steps.refl _) (argsL := [(.ref w_INDETERMINATE), (.ref w_DENY)]) (rest := []) (lenOf pd__Lcom_example_tributary_tributary_AccessList_Decision_Lcom_example_tributary_tributary_AccessList_Decision__Lcom_example_tributary_tributary_AccessList_Decision_ rfl) rfl (by show 2 * 0 + _ ≤ _; exact Nat.le_of_eq rfl) (hb hby at_220) (fun _ _ => ⟨rfl, e0, (by decide : 3 + 0 ≤ _), (by decide : 33 + 0 ≤ _)⟩)
  dsimp only [Pt.U, Pt.locs, Pt.cells, Pt.slots] at X1 l1 y1 z1 st1 hQ1
  subst l1 y1 z1
  obtain ⟨rfl, N1q, e1⟩ := hQ1
  have N1 := Fr.app N0 N1q
  refine ⟨T1, _, #[.val (.int p1), .val (.int p2), .val (.int p3), .val (.int 0), .val (.int 2), .val (.int 1), .val (.ref b1), .val (.ref b8), .val (.ref b15), .val (.ref w_DENY)], X1, N1, fun target kt => ?_⟩
  show Steps p.tables e below (T0.setTop (mkF m 206 #[.val (.int p1), .val (.int p2), .val (.int p3), .val (.int 0), .val (.int 2), .val (.int 1), .val (.ref b1), .val (.ref b8), .val (.ref b15), .unset] [])) _
  refine XS.aload X0.here hx rfl (hb hby at_206) rfl rfl ?_
  show Steps p.tables e below (T0.setTop (mkF m 208 #[.val (.int p1), .val (.int p2), .val (.int p3), .val (.int 0), .val (.int 2), .val (.int 1), .val (.ref b1), .val (.ref b8), .val (.ref b15), .unset] [(.ref b1)])) _
  refine XS.iloadN X0.here hx rfl (hb hby at_208) rfl ?_
  show Steps p.tables e below (T0.setTop (mkF m 209 #[.val (.int p1), .val (.int p2), .val (.int p3), .val (.int 0), .val (.int 2), .val (.int 1), .val (.ref b1), .val (.ref b8), .val (.ref b15), .unset] [(.int 0), (.ref b1)])) _
  refine own_ldR X0 hx hZ e0 V_b1 (j := (0 : Int32)) ⟨by decide, by decide⟩ rfl (g := (mkF m 209 #[.val (.int p1), .val (.int p2), .val (.int p3), .val (.int 0), .val (.int 2), .val (.int 1), .val (.ref b1), .val (.ref b8), .val (.ref b15), .unset] [(.int 0), (.ref b1)])) rfl rfl (hb hby at_209) _ ?_
  show Steps p.tables e below (T0.setTop (mkF m 210 #[.val (.int p1), .val (.int p2), .val (.int p3), .val (.int 0), .val (.int 2), .val (.int 1), .val (.ref b1), .val (.ref b8), .val (.ref b15), .unset] [(.ref w_CHILD_OVERRIDES)])) _
  refine XS.aload X0.here hx rfl (hb hby at_210) rfl rfl ?_
  show Steps p.tables e below (T0.setTop (mkF m 212 #[.val (.int p1), .val (.int p2), .val (.int p3), .val (.int 0), .val (.int 2), .val (.int 1), .val (.ref b1), .val (.ref b8), .val (.ref b15), .unset] [(.ref b8), (.ref w_CHILD_OVERRIDES)])) _
  refine XS.iload X0.here hx rfl (hb hby at_212) rfl ?_
  show Steps p.tables e below (T0.setTop (mkF m 214 #[.val (.int p1), .val (.int p2), .val (.int p3), .val (.int 0), .val (.int 2), .val (.int 1), .val (.ref b1), .val (.ref b8), .val (.ref b15), .unset] [(.int 2), (.ref b8), (.ref w_CHILD_OVERRIDES)])) _
  refine own_ldR X0 hx hZ e0 V_b8 (j := (2 : Int32)) ⟨by decide, by decide⟩ rfl (g := (mkF m 214 #[.val (.int p1), .val (.int p2), .val (.int p3), .val (.int 0), .val (.int 2), .val (.int 1), .val (.ref b1), .val (.ref b8), .val (.ref b15), .unset] [(.int 2), (.ref b8), (.ref w_CHILD_OVERRIDES)])) rfl rfl (hb hby at_214) _ ?_
  show Steps p.tables e below (T0.setTop (mkF m 215 #[.val (.int p1), .val (.int p2), .val (.int p3), .val (.int 0), .val (.int 2), .val (.int 1), .val (.ref b1), .val (.ref b8), .val (.ref b15), .unset] [(.ref w_INDETERMINATE), (.ref w_CHILD_OVERRIDES)])) _
  refine XS.aload X0.here hx rfl (hb hby at_215) rfl rfl ?_
  show Steps p.tables e below (T0.setTop (mkF m 217 #[.val (.int p1), .val (.int p2), .val (.int p3), .val (.int 0), .val (.int 2), .val (.int 1), .val (.ref b1), .val (.ref b8), .val (.ref b15), .unset] [(.ref b8), (.ref w_INDETERMINATE), (.ref w_CHILD_OVERRIDES)])) _
  refine XS.iload X0.here hx rfl (hb hby at_217) rfl ?_
  show Steps p.tables e below (T0.setTop (mkF m 219 #[.val (.int p1), .val (.int p2), .val (.int p3), .val (.int 0), .val (.int 2), .val (.int 1), .val (.ref b1), .val (.ref b8), .val (.ref b15), .unset] [(.int 1), (.ref b8), (.ref w_INDETERMINATE), (.ref w_CHILD_OVERRIDES)])) _
  refine own_ldR X0 hx hZ e0 V_b8 (j := (1 : Int32)) ⟨by decide, by decide⟩ rfl (g := (mkF m 219 #[.val (.int p1), .val (.int p2), .val (.int p3), .val (.int 0), .val (.int 2), .val (.int 1), .val (.ref b1), .val (.ref b8), .val (.ref b15), .unset] [(.int 1), (.ref b8), (.ref w_INDETERMINATE), (.ref w_CHILD_OVERRIDES)])) rfl rfl (hb hby at_219) _ ?_
  show Steps p.tables e below (T0.setTop (mkF m 220 #[.val (.int p1), .val (.int p2), .val (.int p3), .val (.int 0), .val (.int 2), .val (.int 1), .val (.ref b1), .val (.ref b8), .val (.ref b15), .unset] [(.ref w_DENY), (.ref w_INDETERMINATE), (.ref w_CHILD_OVERRIDES)])) _
  refine st1.trans ?_
  show Steps p.tables e below (T1.setTop (mkF m 223 #[.val (.int p1), .val (.int p2), .val (.int p3), .val (.int 0), .val (.int 2), .val (.int 1), .val (.ref b1), .val (.ref b8), .val (.ref b15), .unset] [(.ref w_DENY)])) _
  refine XS.astore X1.here hx rfl (hb hby at_223) rfl rfl (l' := #[.val (.int p1), .val (.int p2), .val (.int p3), .val (.int 0), .val (.int 2), .val (.int 1), .val (.ref b1), .val (.ref b8), .val (.ref b15), .val (.ref w_DENY)]) rfl ?_
  show Steps p.tables e below (T1.setTop (mkF m 225 #[.val (.int p1), .val (.int p2), .val (.int p3), .val (.int 0), .val (.int 2), .val (.int 1), .val (.ref b1), .val (.ref b8), .val (.ref b15), .val (.ref w_DENY)] [])) _
  refine XS.aload X1.here hx rfl (hb hby at_225) rfl rfl ?_
  show Steps p.tables e below (T1.setTop (mkF m 227 #[.val (.int p1), .val (.int p2), .val (.int p3), .val (.int 0), .val (.int 2), .val (.int 1), .val (.ref b1), .val (.ref b8), .val (.ref b15), .val (.ref w_DENY)] [(.ref w_DENY)])) _
  refine XS.aload X1.here hx rfl (hb hby at_227) rfl rfl ?_
  show Steps p.tables e below (T1.setTop (mkF m 229 #[.val (.int p1), .val (.int p2), .val (.int p3), .val (.int 0), .val (.int 2), .val (.int 1), .val (.ref b1), .val (.ref b8), .val (.ref b15), .val (.ref w_DENY)] [(.ref b8), (.ref w_DENY)])) _
  refine XS.aload X1.here hx rfl (hb hby at_229) rfl rfl ?_
  show Steps p.tables e below (T1.setTop (mkF m 231 #[.val (.int p1), .val (.int p2), .val (.int p3), .val (.int 0), .val (.int 2), .val (.int 1), .val (.ref b1), .val (.ref b8), .val (.ref b15), .val (.ref w_DENY)] [(.ref b15), (.ref b8), (.ref w_DENY)])) _
  refine XS.iloadN X1.here hx rfl (hb hby at_231) rfl ?_
  show Steps p.tables e below (T1.setTop (mkF m 232 #[.val (.int p1), .val (.int p2), .val (.int p3), .val (.int 0), .val (.int 2), .val (.int 1), .val (.ref b1), .val (.ref b8), .val (.ref b15), .val (.ref w_DENY)] [(.int 0), (.ref b15), (.ref b8), (.ref w_DENY)])) _
  refine XS.bipush X1.here hx rfl (hb hby at_232) ?_
  show Steps p.tables e below (T1.setTop (mkF m 234 #[.val (.int p1), .val (.int p2), .val (.int p3), .val (.int 0), .val (.int 2), .val (.int 1), .val (.ref b1), .val (.ref b8), .val (.ref b15), .val (.ref w_DENY)] [(.int 9), (.int 0), (.ref b15), (.ref b8), (.ref w_DENY)])) _
  refine XS.imul X1.here hx rfl (hb hby at_234) rfl ?_
  show Steps p.tables e below (T1.setTop (mkF m 235 #[.val (.int p1), .val (.int p2), .val (.int p3), .val (.int 0), .val (.int 2), .val (.int 1), .val (.ref b1), .val (.ref b8), .val (.ref b15), .val (.ref w_DENY)] [(.int ((0 : Int32) * (9 : Int32))), (.ref b15), (.ref b8), (.ref w_DENY)])) _
  rw [(by decide : ((0 : Int32) * (9 : Int32)) = (0 : Int32))]
  show Steps p.tables e below (T1.setTop (mkF m 235 #[.val (.int p1), .val (.int p2), .val (.int p3), .val (.int 0), .val (.int 2), .val (.int 1), .val (.ref b1), .val (.ref b8), .val (.ref b15), .val (.ref w_DENY)] [(.int 0), (.ref b15), (.ref b8), (.ref w_DENY)])) _
  refine XS.iload X1.here hx rfl (hb hby at_235) rfl ?_
  show Steps p.tables e below (T1.setTop (mkF m 237 #[.val (.int p1), .val (.int p2), .val (.int p3), .val (.int 0), .val (.int 2), .val (.int 1), .val (.ref b1), .val (.ref b8), .val (.ref b15), .val (.ref w_DENY)] [(.int 2), (.int 0), (.ref b15), (.ref b8), (.ref w_DENY)])) _
  refine XS.iconst X1.here hx rfl (hb hby at_237) ?_
  show Steps p.tables e below (T1.setTop (mkF m 238 #[.val (.int p1), .val (.int p2), .val (.int p3), .val (.int 0), .val (.int 2), .val (.int 1), .val (.ref b1), .val (.ref b8), .val (.ref b15), .val (.ref w_DENY)] [(.int 3), (.int 2), (.int 0), (.ref b15), (.ref b8), (.ref w_DENY)])) _
  refine XS.imul X1.here hx rfl (hb hby at_238) rfl ?_
  show Steps p.tables e below (T1.setTop (mkF m 239 #[.val (.int p1), .val (.int p2), .val (.int p3), .val (.int 0), .val (.int 2), .val (.int 1), .val (.ref b1), .val (.ref b8), .val (.ref b15), .val (.ref w_DENY)] [(.int ((2 : Int32) * (3 : Int32))), (.int 0), (.ref b15), (.ref b8), (.ref w_DENY)])) _
  rw [(by decide : ((2 : Int32) * (3 : Int32)) = (6 : Int32))]
  show Steps p.tables e below (T1.setTop (mkF m 239 #[.val (.int p1), .val (.int p2), .val (.int p3), .val (.int 0), .val (.int 2), .val (.int 1), .val (.ref b1), .val (.ref b8), .val (.ref b15), .val (.ref w_DENY)] [(.int 6), (.int 0), (.ref b15), (.ref b8), (.ref w_DENY)])) _
  refine XS.iadd X1.here hx rfl (hb hby at_239) rfl ?_
  show Steps p.tables e below (T1.setTop (mkF m 240 #[.val (.int p1), .val (.int p2), .val (.int p3), .val (.int 0), .val (.int 2), .val (.int 1), .val (.ref b1), .val (.ref b8), .val (.ref b15), .val (.ref w_DENY)] [(.int ((0 : Int32) + (6 : Int32))), (.ref b15), (.ref b8), (.ref w_DENY)])) _
  rw [(by decide : ((0 : Int32) + (6 : Int32)) = (6 : Int32))]
  show Steps p.tables e below (T1.setTop (mkF m 240 #[.val (.int p1), .val (.int p2), .val (.int p3), .val (.int 0), .val (.int 2), .val (.int 1), .val (.ref b1), .val (.ref b8), .val (.ref b15), .val (.ref w_DENY)] [(.int 6), (.ref b15), (.ref b8), (.ref w_DENY)])) _
  refine XS.iload X1.here hx rfl (hb hby at_240) rfl ?_
  show Steps p.tables e below (T1.setTop (mkF m 242 #[.val (.int p1), .val (.int p2), .val (.int p3), .val (.int 0), .val (.int 2), .val (.int 1), .val (.ref b1), .val (.ref b8), .val (.ref b15), .val (.ref w_DENY)] [(.int 1), (.int 6), (.ref b15), (.ref b8), (.ref w_DENY)])) _
  refine XS.iadd X1.here hx rfl (hb hby at_242) rfl ?_
  show Steps p.tables e below (T1.setTop (mkF m 243 #[.val (.int p1), .val (.int p2), .val (.int p3), .val (.int 0), .val (.int 2), .val (.int 1), .val (.ref b1), .val (.ref b8), .val (.ref b15), .val (.ref w_DENY)] [(.int ((6 : Int32) + (1 : Int32))), (.ref b15), (.ref b8), (.ref w_DENY)])) _
  rw [(by decide : ((6 : Int32) + (1 : Int32)) = (7 : Int32))]
  show Steps p.tables e below (T1.setTop (mkF m 243 #[.val (.int p1), .val (.int p2), .val (.int p3), .val (.int 0), .val (.int 2), .val (.int 1), .val (.ref b1), .val (.ref b8), .val (.ref b15), .val (.ref w_DENY)] [(.int 7), (.ref b15), (.ref b8), (.ref w_DENY)])) _
  refine own_ldI X1 hx hZ e1 V_b15 (j := (7 : Int32)) ⟨by decide, by decide⟩ rfl (g := (mkF m 243 #[.val (.int p1), .val (.int p2), .val (.int p3), .val (.int 0), .val (.int 2), .val (.int 1), .val (.ref b1), .val (.ref b8), .val (.ref b15), .val (.ref w_DENY)] [(.int 7), (.ref b15), (.ref b8), (.ref w_DENY)])) rfl rfl (hb hby at_243) _ ?_
  show Steps p.tables e below (T1.setTop (mkF m 244 #[.val (.int p1), .val (.int p2), .val (.int p3), .val (.int 0), .val (.int 2), .val (.int 1), .val (.ref b1), .val (.ref b8), .val (.ref b15), .val (.ref w_DENY)] [(.int 1), (.ref b8), (.ref w_DENY)])) _
  refine own_ldR X1 hx hZ e1 V_b8 (j := (1 : Int32)) ⟨by decide, by decide⟩ rfl (g := (mkF m 244 #[.val (.int p1), .val (.int p2), .val (.int p3), .val (.int 0), .val (.int 2), .val (.int 1), .val (.ref b1), .val (.ref b8), .val (.ref b15), .val (.ref w_DENY)] [(.int 1), (.ref b8), (.ref w_DENY)])) rfl rfl (hb hby at_244) _ ?_
  show Steps p.tables e below (T1.setTop (mkF m 245 #[.val (.int p1), .val (.int p2), .val (.int p3), .val (.int 0), .val (.int 2), .val (.int 1), .val (.ref b1), .val (.ref b8), .val (.ref b15), .val (.ref w_DENY)] [(.ref w_DENY), (.ref w_DENY)])) _
  refine Jvm.RoadKit.acmp (g := (mkF m 245 #[.val (.int p1), .val (.int p2), .val (.int p3), .val (.int 0), .val (.int 2), .val (.int 1), .val (.ref b1), .val (.ref b8), .val (.ref b15), .val (.ref w_DENY)] [(.ref w_DENY), (.ref w_DENY)])) X1 hx rfl rfl rfl (pc0 := 245) (pc' := 248) (same := true) rfl (hb hby at_245) rfl (decide_eq_true rfl) (by decide) (by decide) ?_
  show Steps p.tables e below (T1.setTop (mkF m 248 #[.val (.int p1), .val (.int p2), .val (.int p3), .val (.int 0), .val (.int 2), .val (.int 1), .val (.ref b1), .val (.ref b8), .val (.ref b15), .val (.ref w_DENY)] [])) _
  refine XS.iconst X1.here hx rfl (hb hby at_248) ?_
  show Steps p.tables e below (T1.setTop (mkF m 249 #[.val (.int p1), .val (.int p2), .val (.int p3), .val (.int 0), .val (.int 2), .val (.int 1), .val (.ref b1), .val (.ref b8), .val (.ref b15), .val (.ref w_DENY)] [(.int 1)])) _
  refine XS.goto X1.here hx rfl (pc0 := 249) (pc' := 253) rfl (hb hby at_249) (by decide) (by decide) ?_
  show Steps p.tables e below (T1.setTop (mkF m 253 #[.val (.int p1), .val (.int p2), .val (.int p3), .val (.int 0), .val (.int 2), .val (.int 1), .val (.ref b1), .val (.ref b8), .val (.ref b15), .val (.ref w_DENY)] [(.int 1)])) _
  exact kt
def Q1_w_CHILD_OVERRIDES_w_INDETERMINATE_w_INDETERMINATE (Z : State) (w_CHILD_OVERRIDES : Addr) (w_INDETERMINATE : Addr) (h0 : Heap) (n0 : Nat) (v : Option Value) (h : Heap) (L : List Loc) : Prop := v = some (.ref w_INDETERMINATE) ∧ Fr n0 L ∧ h = h0
set_option maxRecDepth 65536 in
set_option maxHeartbeats 40000000 in
theorem rm1_w_CHILD_OVERRIDES_w_INDETERMINATE_w_INDETERMINATE (l : Launch) (Z : State) (a0 : Array Value) (hw : ∀ d ∈ tables_1, d.before a0 Z = true) (ws : List Jvm.Cond) (w_CHILD_OVERRIDES : Addr) (w_INDETERMINATE : Addr) (h0 : Heap) (n0 : Nat) (Z0 : n0 ≤ h0.size) (F_ordinal_w_CHILD_OVERRIDES : Fld Z h0 w_CHILD_OVERRIDES "java/lang/Enum" "ordinal" "I" (.int 0)) (E_w_CHILD_OVERRIDES : Exa Z h0 w_CHILD_OVERRIDES "com/example/tributary/tributary/AccessList$InheritanceType") (S_INDETERMINATE : Sta Z h0 "com/example/tributary/tributary/AccessList$Decision" "INDETERMINATE" "Lcom/example/tributary/tributary/AccessList$Decision;" (.ref w_INDETERMINATE)) :
    MetFree l (⟨"com/example/tributary/tributary/AccessList$InheritanceType", "combine", "(Lcom/example/tributary/tributary/AccessList$Decision;Lcom/example/tributary/tributary/AccessList$Decision;)Lcom/example/tributary/tributary/AccessList$Decision;"⟩ : MethodName) (head1 (Jvm.Cond.code (⟨"com/example/tributary/tributary/AccessList$InheritanceType", "combine", "(Lcom/example/tributary/tributary/AccessList$Decision;Lcom/example/tributary/tributary/AccessList$Decision;)Lcom/example/tributary/tributary/AccessList$Decision;"⟩ : MethodName) prog_6_method_4_code 3 (some (.object "com/example/tributary/tributary/AccessList$Decision")) :: ws) ({ frames := 1, cells := 0, slots := 0, locals := 12 } : Room)) (fun a U => a = #[(.ref w_CHILD_OVERRIDES), (.ref w_INDETERMINATE), (.ref w_INDETERMINATE)] ∧ Z.Warmed39 U.vm ∧ U.heap = h0) (fun _ _ _ _ _ => True) (fun _ U o U' => ∃ v L, o = .returned v ∧ Q1_w_CHILD_OVERRIDES_w_INDETERMINATE_w_INDETERMINATE Z w_CHILD_OVERRIDES w_INDETERMINATE h0 n0 v U'.heap L ∧ FrameEnd U o U' L ({ frames := 1, cells := 0, slots := 0, locals := 12 } : Room).cells ({ frames := 1, cells := 0, slots := 0, locals := 12 } : Room).slots) := by
  refine MetFree.of_bodySF (plainFor_of_name pn_1) hisR ?_
  intro p e s m args below meth c s₁ Bd hml0 hP hK
  obtain ⟨rfl, hZ, hh⟩ := hP
  have hx := Bd.exec
  have hby := Bd.bytes
  have hml : c.maxLocals = 3 := hml0
  have hown : s.vm.findClass "com/example/tributary/tributary/AccessList$InheritanceType" = some m.cls := findClass_of_methodNamed Bd.named
  have hnm := (name_of_methodNamed Bd.named Bd.method).1
  have X0 : Stand p l e ({ frames := 1, cells := 0, slots := 0, locals := 12 } : Room) s m #[(.ref w_CHILD_OVERRIDES), (.ref w_INDETERMINATE), (.ref w_INDETERMINATE)] below meth c s₁ [] 0 0 := Stand.of_body Bd
  have e0 : s₁.heap = h0 := by rw [← hh, Bd.state]; rfl
  have N0 := Fr.nil n0
  have pre0 : ∀ t, Steps p.tables e below (s₁.setTop (mkF m 0 #[.val (.ref w_CHILD_OVERRIDES), .val (.ref w_INDETERMINATE), .val (.ref w_INDETERMINATE)] [])) t → Steps p.tables e below (s₁.setTop (entryFrame m #[(.ref w_CHILD_OVERRIDES), (.ref w_INDETERMINATE), (.ref w_INDETERMINATE)] 3)) t := fun t k => castTop (by first | (simp [entryFrame, mkF, argsToLocals, Value.category]; done) | rfl) k
  obtain ⟨cq1, kq1, q1a, q1b, q1c⟩ := isOf hZ e0 E_w_CHILD_OVERRIDES
  obtain ⟨_, _, ⟨T1, L1, k1, n1⟩, -, X1, ⟨Lc1, hQ1, l1, y1, z1⟩, st1⟩ := X0.virtualBackUp hx (x := (⟨"com/example/tributary/tributary/AccessList$InheritanceType", "ordinal", "()I"⟩ : MethodName)) (y := (⟨"java/lang/Enum", "ordinal", "()I"⟩ : MethodName)) (owner := "java/lang/Enum") hown (mvT hZ (hw _ (List.mem_of_getElem? (i := 27) rfl))) (mvT hZ (hw _ (List.mem_of_getElem? (i := 28) rfl))) (mvT hZ (hw _ (List.mem_of_getElem? (i := 29) rfl))) (by decide) (mvT hZ (hw _ (List.mem_of_getElem? (i := 31) rfl))) (mvT hZ (hw _ (List.mem_of_getElem? (i := 30) rfl))) (backOf (W := 0) (rm2_w_CHILD_OVERRIDES l Z a0 hw [] w_CHILD_OVERRIDES h0 n0 Z0 F_ordinal_w_CHILD_OVERRIDES) hZ (hw _ (List.mem_of_getElem? (i := 33) rfl)) (hw _ (List.mem_of_getElem? (i := 32) rfl)) (by decide) (by decide)) q1a q1c (g := (mkF m 1 #[.val (.ref w_CHILD_OVERRIDES), .val (.ref w_INDETERMINATE), .val (.ref w_INDETERMINATE)] [(.ref w_CHILD_OVERRIDES)])) rfl (by rw [hml]; rfl) (Steps.refl _) (argsL := []) (rest := []) (lenOf pd___I rfl) rfl (by show 2 * 0 + _ ≤ _; exact Nat.le_of_eq rfl) (hb hby d1_1) (fun _ _ => ⟨rfl, e0, (by decide : 0 + 0 ≤ _), (by decide : 0 + 0 ≤ _)⟩)
  dsimp only [Pt.U, Pt.locs, Pt.cells, Pt.slots] at X1 l1 y1 z1 st1 hQ1
  subst l1 y1 z1
  obtain ⟨rfl, N1q, e1⟩ := hQ1
  have N1 := Fr.app N0 N1q
  obtain ⟨T2, X2, e2, st2⟩ := getS2 X1 hx hZ hown (host := "") (Or.inl (hw _ (List.mem_of_getElem? (i := 36) rfl))) Via.refl e1 S_INDETERMINATE (g := (mkF m 47 #[.val (.ref w_CHILD_OVERRIDES), .val (.ref w_INDETERMINATE), .val (.ref w_INDETERMINATE)] [(.ref w_INDETERMINATE)])) rfl (hb hby d1_47)
  obtain ⟨fs, hr, hrun, hended, hW, hsame⟩ := X2.leave (v := some (.ref w_INDETERMINATE)) (fun h => by rw [Bd.returns] at h; cases h)
  refine ⟨_, _, pre0 _ ?_, hrun, hended, _, _, rfl, ?_, ⟨_, rfl⟩, hW, hsame.mono (by decide) (by decide)⟩
  · show Steps p.tables e below (s₁.setTop (mkF m 0 #[.val (.ref w_CHILD_OVERRIDES), .val (.ref w_INDETERMINATE), .val (.ref w_INDETERMINATE)] [])) _
    refine XS.aloadN X0.here hx rfl (hb hby d1_0) rfl rfl ?_
    show Steps p.tables e below (s₁.setTop (mkF m 1 #[.val (.ref w_CHILD_OVERRIDES), .val (.ref w_INDETERMINATE), .val (.ref w_INDETERMINATE)] [(.ref w_CHILD_OVERRIDES)])) _
    refine st1.trans ?_
    show Steps p.tables e below (T1.setTop (mkF m 4 #[.val (.ref w_CHILD_OVERRIDES), .val (.ref w_INDETERMINATE), .val (.ref w_INDETERMINATE)] [(.int 0)])) _
    refine XS.tswIn X1.here hx rfl (pc0 := 4) (pc' := 46) rfl (hb hby d1_4) rfl (by decide) (o := 42) (by decide) (by decide) (by decide) ?_
    show Steps p.tables e below (T1.setTop (mkF m 46 #[.val (.ref w_CHILD_OVERRIDES), .val (.ref w_INDETERMINATE), .val (.ref w_INDETERMINATE)] [])) _
    refine XS.aloadN X1.here hx rfl (hb hby d1_46) rfl rfl ?_
    show Steps p.tables e below (T1.setTop (mkF m 47 #[.val (.ref w_CHILD_OVERRIDES), .val (.ref w_INDETERMINATE), .val (.ref w_INDETERMINATE)] [(.ref w_INDETERMINATE)])) _
    refine st2 _ ?_
    show Steps p.tables e below (T2.setTop (mkF m 50 #[.val (.ref w_CHILD_OVERRIDES), .val (.ref w_INDETERMINATE), .val (.ref w_INDETERMINATE)] [(.ref w_INDETERMINATE), (.ref w_INDETERMINATE)])) _
    refine Jvm.RoadKit.acmp (g := (mkF m 50 #[.val (.ref w_CHILD_OVERRIDES), .val (.ref w_INDETERMINATE), .val (.ref w_INDETERMINATE)] [(.ref w_INDETERMINATE), (.ref w_INDETERMINATE)])) X2 hx rfl rfl rfl (pc0 := 50) (pc' := 53) (same := true) rfl (hb hby d1_50) rfl (decide_eq_true rfl) (by decide) (by decide) ?_
    show Steps p.tables e below (T2.setTop (mkF m 53 #[.val (.ref w_CHILD_OVERRIDES), .val (.ref w_INDETERMINATE), .val (.ref w_INDETERMINATE)] [])) _
    refine XS.aloadN X2.here hx rfl (hb hby d1_53) rfl rfl ?_
    show Steps p.tables e below (T2.setTop (mkF m 54 #[.val (.ref w_CHILD_OVERRIDES), .val (.ref w_INDETERMINATE), .val (.ref w_INDETERMINATE)] [(.ref w_INDETERMINATE)])) _
    refine XS.goto X2.here hx rfl (pc0 := 54) (pc' := 112) rfl (hb hby d1_54) (by decide) (by decide) ?_
    show Steps p.tables e below (T2.setTop (mkF m 112 #[.val (.ref w_CHILD_OVERRIDES), .val (.ref w_INDETERMINATE), .val (.ref w_INDETERMINATE)] [(.ref w_INDETERMINATE)])) _
    jvm_step X2.here [X2.here.top, hx, (hb hby d1_112), X2.method', Bd.returns, Value.isRef, FieldType.isReference]
    first | (intro acts; rw [hr _ acts rfl rfl rfl]) | rw [hr _ _ rfl rfl rfl]
    exact Steps.refl _
  · show Q1_w_CHILD_OVERRIDES_w_INDETERMINATE_w_INDETERMINATE Z w_CHILD_OVERRIDES w_INDETERMINATE h0 n0 _ T2.heap _
    rw [e2]
    exact ⟨rfl, N1, rfl⟩
set_option maxRecDepth 65536 in
set_option maxHeartbeats 40000000 in
theorem pc0_k022 {p : Program} {l : Launch} {e : Env} {s : State} {m : MethodId} {args : Array Value} {below : List Frame} {meth : Method} {c : Code} {T0 : State} {locs : List Loc} {Z : State} {a0 : Array Value} {h0 : Heap} {n0 : Nat} (p1 : Int32) (p2 : Int32) (p3 : Int32) (b1 : Addr) (b8 : Addr) (b15 : Addr) (k1 : ClassId) (w_CHILD_OVERRIDES : Addr) (w_PARENT_OVERRIDES : Addr) (w_AND_BOTH_PERMIT : Addr) (k8 : ClassId) (w_PERMIT : Addr) (w_DENY : Addr) (w_INDETERMINATE : Addr) (k15 : ClassId)
    (X0 : Stand p l e room_1 s m args below meth c T0 locs 3 33) (hx : p.tables.exec = Jvm.exec) (hZ : Z.Warmed39 s.vm) (hw : ∀ d ∈ tables_1, d.before a0 Z = true) (hby : c.code = code) (hml : c.maxLocals = 10) (hown : s.vm.findClass "com/example/tributary/tributary/InheritanceTypeCombinePinLaw" = some m.cls) (e0 : T0.heap = h0) (Z0 : n0 ≤ h0.size) (N0 : Fr n0 locs) (V_b1 : Arv Z h0 b1 k1 (.object "com/example/tributary/tributary/AccessList$InheritanceType") (3 : Int32) [(.ref w_CHILD_OVERRIDES), (.ref w_PARENT_OVERRIDES), (.ref w_AND_BOTH_PERMIT)] .null) (V_b8 : Arv Z h0 b8 k8 (.object "com/example/tributary/tributary/AccessList$Decision") (3 : Int32) [(.ref w_PERMIT), (.ref w_DENY), (.ref w_INDETERMINATE)] .null) (F_ordinal_w_CHILD_OVERRIDES : Fld Z h0 w_CHILD_OVERRIDES "java/lang/Enum" "ordinal" "I" (.int 0)) (E_w_CHILD_OVERRIDES : Exa Z h0 w_CHILD_OVERRIDES "com/example/tributary/tributary/AccessList$InheritanceType") (S_INDETERMINATE : Sta Z h0 "com/example/tributary/tributary/AccessList$Decision" "INDETERMINATE" "Lcom/example/tributary/tributary/AccessList$Decision;" (.ref w_INDETERMINATE)) (V_b15 : Arv Z h0 b15 k15 .int (27 : Int32) [(.int 0), (.int 1), (.int 0), (.int 0), (.int 1), (.int 1), (.int 0), (.int 1), (.int 2), (.int 0), (.int 0), (.int 0), (.int 1), (.int 1), (.int 1), (.int 0), (.int 1), (.int 2), (.int 0), (.int 1), (.int 1), (.int 1), (.int 1), (.int 1), (.int 1), (.int 1), (.int 1)] (.int (0 : Int32))) :
    ∃ (T' : State) (L' : List Loc) (Ls : Array Slot), Stand p l e room_1 s m args below meth c T' L' 3 33 ∧ Fr n0 L' ∧ ∀ target, Steps p.tables e below (T'.setTop (mkF m 253 Ls [(.int 1)])) target → Steps p.tables e below (T0.setTop (mkF m 206 #[.val (.int p1), .val (.int p2), .val (.int p3), .val (.int 0), .val (.int 2), .val (.int 2), .val (.ref b1), .val (.ref b8), .val (.ref b15), .unset] [])) target := by
  obtain ⟨cq1, kq1, q1a, q1b, q1c⟩ := isOf hZ e0 E_w_CHILD_OVERRIDES
  obtain ⟨_, _, ⟨T1, L1, k1, n1⟩, -, X1, ⟨Lc1, hQ1, l1, y1, z1⟩, st1⟩ := X0.virtualBack hx (y := (⟨"com/example/tributary/tributary/AccessList$InheritanceType", "combine", "(Lcom/example/tributary/tributary/AccessList$Decision;Lcom/example/tributary/tributary/AccessList$Decision;)Lcom/example/tributary/tributary/AccessList$Decision;"⟩ : MethodName)) (z := (⟨"com/example/tributary/tributary/AccessList$InheritanceType", "combine", "(Lcom/example/tributary/tributary/AccessList$Decision;Lcom/example/tributary/tributary/AccessList$Decision;)Lcom/example/tributary/tributary/AccessList$Decision;"⟩ : MethodName)) hown (mvT hZ (hw _ (List.mem_of_getElem? (i := 22) rfl))) (mvT hZ (hw _ (List.mem_of_getElem? (i := 23) rfl))) (notFace_of_selects (args := #[]) (mvT hZ (hw _ (List.mem_of_getElem? (i := 25) rfl)))) (mvT hZ (hw _ (List.mem_of_getElem? (i := 25) rfl))) (mvT hZ (hw _ (List.mem_of_getElem? (i := 24) rfl))) (by decide) (backOf (W := 0) (rm1_w_CHILD_OVERRIDES_w_INDETERMINATE_w_INDETERMINATE l Z a0 hw [] w_CHILD_OVERRIDES w_INDETERMINATE h0 n0 Z0 F_ordinal_w_CHILD_OVERRIDES E_w_CHILD_OVERRIDES S_INDETERMINATE) hZ (hw _ (List.mem_of_getElem? (i := 26) rfl)) (hw _ (List.mem_of_getElem? (i := 4) rfl)) (by decide) (by decide)) q1a q1c (g := (mkF m 220 #[.val (.int p1), .val (.int p2), .val (.int p3), .val (.int 0), .val (.int 2), .val (.int 2), .val (.ref b1), .val (.ref b8), .val (.ref b15), .unset] [(.ref w_INDETERMINATE), (.ref w_INDETERMINATE), (.ref w_CHILD_OVERRIDES)])) rfl (by rw [hml]; rfl) (Steps.refl _) (argsL := [(.ref w_INDETERMINATE), (.ref w_INDETERMINATE)]) (rest := []) (lenOf pd__Lcom_example_tributary_tributary_AccessList_Decision_Lcom_example_tributary_tributary_AccessList_Decision__Lcom_example_tributary_tributary_AccessList_Decision_ rfl) rfl (by show 2 * 0 + _ ≤ _; exact Nat.le_of_eq rfl) (hb hby at_220) (fun _ _ => ⟨rfl, e0, (by decide : 3 + 0 ≤ _), (by decide : 33 + 0 ≤ _)⟩)
  dsimp only [Pt.U, Pt.locs, Pt.cells, Pt.slots] at X1 l1 y1 z1 st1 hQ1
  subst l1 y1 z1
  obtain ⟨rfl, N1q, e1⟩ := hQ1
  have N1 := Fr.app N0 N1q
  refine ⟨T1, _, #[.val (.int p1), .val (.int p2), .val (.int p3), .val (.int 0), .val (.int 2), .val (.int 2), .val (.ref b1), .val (.ref b8), .val (.ref b15), .val (.ref w_INDETERMINATE)], X1, N1, fun target kt => ?_⟩
  show Steps p.tables e below (T0.setTop (mkF m 206 #[.val (.int p1), .val (.int p2), .val (.int p3), .val (.int 0), .val (.int 2), .val (.int 2), .val (.ref b1), .val (.ref b8), .val (.ref b15), .unset] [])) _
  refine XS.aload X0.here hx rfl (hb hby at_206) rfl rfl ?_
  show Steps p.tables e below (T0.setTop (mkF m 208 #[.val (.int p1), .val (.int p2), .val (.int p3), .val (.int 0), .val (.int 2), .val (.int 2), .val (.ref b1), .val (.ref b8), .val (.ref b15), .unset] [(.ref b1)])) _
  refine XS.iloadN X0.here hx rfl (hb hby at_208) rfl ?_
  show Steps p.tables e below (T0.setTop (mkF m 209 #[.val (.int p1), .val (.int p2), .val (.int p3), .val (.int 0), .val (.int 2), .val (.int 2), .val (.ref b1), .val (.ref b8), .val (.ref b15), .unset] [(.int 0), (.ref b1)])) _
  refine own_ldR X0 hx hZ e0 V_b1 (j := (0 : Int32)) ⟨by decide, by decide⟩ rfl (g := (mkF m 209 #[.val (.int p1), .val (.int p2), .val (.int p3), .val (.int 0), .val (.int 2), .val (.int 2), .val (.ref b1), .val (.ref b8), .val (.ref b15), .unset] [(.int 0), (.ref b1)])) rfl rfl (hb hby at_209) _ ?_
  show Steps p.tables e below (T0.setTop (mkF m 210 #[.val (.int p1), .val (.int p2), .val (.int p3), .val (.int 0), .val (.int 2), .val (.int 2), .val (.ref b1), .val (.ref b8), .val (.ref b15), .unset] [(.ref w_CHILD_OVERRIDES)])) _
  refine XS.aload X0.here hx rfl (hb hby at_210) rfl rfl ?_
  show Steps p.tables e below (T0.setTop (mkF m 212 #[.val (.int p1), .val (.int p2), .val (.int p3), .val (.int 0), .val (.int 2), .val (.int 2), .val (.ref b1), .val (.ref b8), .val (.ref b15), .unset] [(.ref b8), (.ref w_CHILD_OVERRIDES)])) _
  refine XS.iload X0.here hx rfl (hb hby at_212) rfl ?_
  show Steps p.tables e below (T0.setTop (mkF m 214 #[.val (.int p1), .val (.int p2), .val (.int p3), .val (.int 0), .val (.int 2), .val (.int 2), .val (.ref b1), .val (.ref b8), .val (.ref b15), .unset] [(.int 2), (.ref b8), (.ref w_CHILD_OVERRIDES)])) _
  refine own_ldR X0 hx hZ e0 V_b8 (j := (2 : Int32)) ⟨by decide, by decide⟩ rfl (g := (mkF m 214 #[.val (.int p1), .val (.int p2), .val (.int p3), .val (.int 0), .val (.int 2), .val (.int 2), .val (.ref b1), .val (.ref b8), .val (.ref b15), .unset] [(.int 2), (.ref b8), (.ref w_CHILD_OVERRIDES)])) rfl rfl (hb hby at_214) _ ?_
  show Steps p.tables e below (T0.setTop (mkF m 215 #[.val (.int p1), .val (.int p2), .val (.int p3), .val (.int 0), .val (.int 2), .val (.int 2), .val (.ref b1), .val (.ref b8), .val (.ref b15), .unset] [(.ref w_INDETERMINATE), (.ref w_CHILD_OVERRIDES)])) _
  refine XS.aload X0.here hx rfl (hb hby at_215) rfl rfl ?_
  show Steps p.tables e below (T0.setTop (mkF m 217 #[.val (.int p1), .val (.int p2), .val (.int p3), .val (.int 0), .val (.int 2), .val (.int 2), .val (.ref b1), .val (.ref b8), .val (.ref b15), .unset] [(.ref b8), (.ref w_INDETERMINATE), (.ref w_CHILD_OVERRIDES)])) _
  refine XS.iload X0.here hx rfl (hb hby at_217) rfl ?_
  show Steps p.tables e below (T0.setTop (mkF m 219 #[.val (.int p1), .val (.int p2), .val (.int p3), .val (.int 0), .val (.int 2), .val (.int 2), .val (.ref b1), .val (.ref b8), .val (.ref b15), .unset] [(.int 2), (.ref b8), (.ref w_INDETERMINATE), (.ref w_CHILD_OVERRIDES)])) _
  refine own_ldR X0 hx hZ e0 V_b8 (j := (2 : Int32)) ⟨by decide, by decide⟩ rfl (g := (mkF m 219 #[.val (.int p1), .val (.int p2), .val (.int p3), .val (.int 0), .val (.int 2), .val (.int 2), .val (.ref b1), .val (.ref b8), .val (.ref b15), .unset] [(.int 2), (.ref b8), (.ref w_INDETERMINATE), (.ref w_CHILD_OVERRIDES)])) rfl rfl (hb hby at_219) _ ?_
  show Steps p.tables e below (T0.setTop (mkF m 220 #[.val (.int p1), .val (.int p2), .val (.int p3), .val (.int 0), .val (.int 2), .val (.int 2), .val (.ref b1), .val (.ref b8), .val (.ref b15), .unset] [(.ref w_INDETERMINATE), (.ref w_INDETERMINATE), (.ref w_CHILD_OVERRIDES)])) _
  refine st1.trans ?_
  show Steps p.tables e below (T1.setTop (mkF m 223 #[.val (.int p1), .val (.int p2), .val (.int p3), .val (.int 0), .val (.int 2), .val (.int 2), .val (.ref b1), .val (.ref b8), .val (.ref b15), .unset] [(.ref w_INDETERMINATE)])) _
  refine XS.astore X1.here hx rfl (hb hby at_223) rfl rfl (l' := #[.val (.int p1), .val (.int p2), .val (.int p3), .val (.int 0), .val (.int 2), .val (.int 2), .val (.ref b1), .val (.ref b8), .val (.ref b15), .val (.ref w_INDETERMINATE)]) rfl ?_
  show Steps p.tables e below (T1.setTop (mkF m 225 #[.val (.int p1), .val (.int p2), .val (.int p3), .val (.int 0), .val (.int 2), .val (.int 2), .val (.ref b1), .val (.ref b8), .val (.ref b15), .val (.ref w_INDETERMINATE)] [])) _
  refine XS.aload X1.here hx rfl (hb hby at_225) rfl rfl ?_
  show Steps p.tables e below (T1.setTop (mkF m 227 #[.val (.int p1), .val (.int p2), .val (.int p3), .val (.int 0), .val (.int 2), .val (.int 2), .val (.ref b1), .val (.ref b8), .val (.ref b15), .val (.ref w_INDETERMINATE)] [(.ref w_INDETERMINATE)])) _
  refine XS.aload X1.here hx rfl (hb hby at_227) rfl rfl ?_
  show Steps p.tables e below (T1.setTop (mkF m 229 #[.val (.int p1), .val (.int p2), .val (.int p3), .val (.int 0), .val (.int 2), .val (.int 2), .val (.ref b1), .val (.ref b8), .val (.ref b15), .val (.ref w_INDETERMINATE)] [(.ref b8), (.ref w_INDETERMINATE)])) _
  refine XS.aload X1.here hx rfl (hb hby at_229) rfl rfl ?_
  show Steps p.tables e below (T1.setTop (mkF m 231 #[.val (.int p1), .val (.int p2), .val (.int p3), .val (.int 0), .val (.int 2), .val (.int 2), .val (.ref b1), .val (.ref b8), .val (.ref b15), .val (.ref w_INDETERMINATE)] [(.ref b15), (.ref b8), (.ref w_INDETERMINATE)])) _
  refine XS.iloadN X1.here hx rfl (hb hby at_231) rfl ?_
  show Steps p.tables e below (T1.setTop (mkF m 232 #[.val (.int p1), .val (.int p2), .val (.int p3), .val (.int 0), .val (.int 2), .val (.int 2), .val (.ref b1), .val (.ref b8), .val (.ref b15), .val (.ref w_INDETERMINATE)] [(.int 0), (.ref b15), (.ref b8), (.ref w_INDETERMINATE)])) _
  refine XS.bipush X1.here hx rfl (hb hby at_232) ?_
  show Steps p.tables e below (T1.setTop (mkF m 234 #[.val (.int p1), .val (.int p2), .val (.int p3), .val (.int 0), .val (.int 2), .val (.int 2), .val (.ref b1), .val (.ref b8), .val (.ref b15), .val (.ref w_INDETERMINATE)] [(.int 9), (.int 0), (.ref b15), (.ref b8), (.ref w_INDETERMINATE)])) _
  refine XS.imul X1.here hx rfl (hb hby at_234) rfl ?_
  show Steps p.tables e below (T1.setTop (mkF m 235 #[.val (.int p1), .val (.int p2), .val (.int p3), .val (.int 0), .val (.int 2), .val (.int 2), .val (.ref b1), .val (.ref b8), .val (.ref b15), .val (.ref w_INDETERMINATE)] [(.int ((0 : Int32) * (9 : Int32))), (.ref b15), (.ref b8), (.ref w_INDETERMINATE)])) _
  rw [(by decide : ((0 : Int32) * (9 : Int32)) = (0 : Int32))]
  show Steps p.tables e below (T1.setTop (mkF m 235 #[.val (.int p1), .val (.int p2), .val (.int p3), .val (.int 0), .val (.int 2), .val (.int 2), .val (.ref b1), .val (.ref b8), .val (.ref b15), .val (.ref w_INDETERMINATE)] [(.int 0), (.ref b15), (.ref b8), (.ref w_INDETERMINATE)])) _
  refine XS.iload X1.here hx rfl (hb hby at_235) rfl ?_
  show Steps p.tables e below (T1.setTop (mkF m 237 #[.val (.int p1), .val (.int p2), .val (.int p3), .val (.int 0), .val (.int 2), .val (.int 2), .val (.ref b1), .val (.ref b8), .val (.ref b15), .val (.ref w_INDETERMINATE)] [(.int 2), (.int 0), (.ref b15), (.ref b8), (.ref w_INDETERMINATE)])) _
  refine XS.iconst X1.here hx rfl (hb hby at_237) ?_
  show Steps p.tables e below (T1.setTop (mkF m 238 #[.val (.int p1), .val (.int p2), .val (.int p3), .val (.int 0), .val (.int 2), .val (.int 2), .val (.ref b1), .val (.ref b8), .val (.ref b15), .val (.ref w_INDETERMINATE)] [(.int 3), (.int 2), (.int 0), (.ref b15), (.ref b8), (.ref w_INDETERMINATE)])) _
  refine XS.imul X1.here hx rfl (hb hby at_238) rfl ?_
  show Steps p.tables e below (T1.setTop (mkF m 239 #[.val (.int p1), .val (.int p2), .val (.int p3), .val (.int 0), .val (.int 2), .val (.int 2), .val (.ref b1), .val (.ref b8), .val (.ref b15), .val (.ref w_INDETERMINATE)] [(.int ((2 : Int32) * (3 : Int32))), (.int 0), (.ref b15), (.ref b8), (.ref w_INDETERMINATE)])) _
  rw [(by decide : ((2 : Int32) * (3 : Int32)) = (6 : Int32))]
  show Steps p.tables e below (T1.setTop (mkF m 239 #[.val (.int p1), .val (.int p2), .val (.int p3), .val (.int 0), .val (.int 2), .val (.int 2), .val (.ref b1), .val (.ref b8), .val (.ref b15), .val (.ref w_INDETERMINATE)] [(.int 6), (.int 0), (.ref b15), (.ref b8), (.ref w_INDETERMINATE)])) _
  refine XS.iadd X1.here hx rfl (hb hby at_239) rfl ?_
  show Steps p.tables e below (T1.setTop (mkF m 240 #[.val (.int p1), .val (.int p2), .val (.int p3), .val (.int 0), .val (.int 2), .val (.int 2), .val (.ref b1), .val (.ref b8), .val (.ref b15), .val (.ref w_INDETERMINATE)] [(.int ((0 : Int32) + (6 : Int32))), (.ref b15), (.ref b8), (.ref w_INDETERMINATE)])) _
  rw [(by decide : ((0 : Int32) + (6 : Int32)) = (6 : Int32))]
  show Steps p.tables e below (T1.setTop (mkF m 240 #[.val (.int p1), .val (.int p2), .val (.int p3), .val (.int 0), .val (.int 2), .val (.int 2), .val (.ref b1), .val (.ref b8), .val (.ref b15), .val (.ref w_INDETERMINATE)] [(.int 6), (.ref b15), (.ref b8), (.ref w_INDETERMINATE)])) _
  refine XS.iload X1.here hx rfl (hb hby at_240) rfl ?_
  show Steps p.tables e below (T1.setTop (mkF m 242 #[.val (.int p1), .val (.int p2), .val (.int p3), .val (.int 0), .val (.int 2), .val (.int 2), .val (.ref b1), .val (.ref b8), .val (.ref b15), .val (.ref w_INDETERMINATE)] [(.int 2), (.int 6), (.ref b15), (.ref b8), (.ref w_INDETERMINATE)])) _
  refine XS.iadd X1.here hx rfl (hb hby at_242) rfl ?_
  show Steps p.tables e below (T1.setTop (mkF m 243 #[.val (.int p1), .val (.int p2), .val (.int p3), .val (.int 0), .val (.int 2), .val (.int 2), .val (.ref b1), .val (.ref b8), .val (.ref b15), .val (.ref w_INDETERMINATE)] [(.int ((6 : Int32) + (2 : Int32))), (.ref b15), (.ref b8), (.ref w_INDETERMINATE)])) _
  rw [(by decide : ((6 : Int32) + (2 : Int32)) = (8 : Int32))]
  show Steps p.tables e below (T1.setTop (mkF m 243 #[.val (.int p1), .val (.int p2), .val (.int p3), .val (.int 0), .val (.int 2), .val (.int 2), .val (.ref b1), .val (.ref b8), .val (.ref b15), .val (.ref w_INDETERMINATE)] [(.int 8), (.ref b15), (.ref b8), (.ref w_INDETERMINATE)])) _
  refine own_ldI X1 hx hZ e1 V_b15 (j := (8 : Int32)) ⟨by decide, by decide⟩ rfl (g := (mkF m 243 #[.val (.int p1), .val (.int p2), .val (.int p3), .val (.int 0), .val (.int 2), .val (.int 2), .val (.ref b1), .val (.ref b8), .val (.ref b15), .val (.ref w_INDETERMINATE)] [(.int 8), (.ref b15), (.ref b8), (.ref w_INDETERMINATE)])) rfl rfl (hb hby at_243) _ ?_
  show Steps p.tables e below (T1.setTop (mkF m 244 #[.val (.int p1), .val (.int p2), .val (.int p3), .val (.int 0), .val (.int 2), .val (.int 2), .val (.ref b1), .val (.ref b8), .val (.ref b15), .val (.ref w_INDETERMINATE)] [(.int 2), (.ref b8), (.ref w_INDETERMINATE)])) _
  refine own_ldR X1 hx hZ e1 V_b8 (j := (2 : Int32)) ⟨by decide, by decide⟩ rfl (g := (mkF m 244 #[.val (.int p1), .val (.int p2), .val (.int p3), .val (.int 0), .val (.int 2), .val (.int 2), .val (.ref b1), .val (.ref b8), .val (.ref b15), .val (.ref w_INDETERMINATE)] [(.int 2), (.ref b8), (.ref w_INDETERMINATE)])) rfl rfl (hb hby at_244) _ ?_
  show Steps p.tables e below (T1.setTop (mkF m 245 #[.val (.int p1), .val (.int p2), .val (.int p3), .val (.int 0), .val (.int 2), .val (.int 2), .val (.ref b1), .val (.ref b8), .val (.ref b15), .val (.ref w_INDETERMINATE)] [(.ref w_INDETERMINATE), (.ref w_INDETERMINATE)])) _
  refine Jvm.RoadKit.acmp (g := (mkF m 245 #[.val (.int p1), .val (.int p2), .val (.int p3), .val (.int 0), .val (.int 2), .val (.int 2), .val (.ref b1), .val (.ref b8), .val (.ref b15), .val (.ref w_INDETERMINATE)] [(.ref w_INDETERMINATE), (.ref w_INDETERMINATE)])) X1 hx rfl rfl rfl (pc0 := 245) (pc' := 248) (same := true) rfl (hb hby at_245) rfl (decide_eq_true rfl) (by decide) (by decide) ?_
  show Steps p.tables e below (T1.setTop (mkF m 248 #[.val (.int p1), .val (.int p2), .val (.int p3), .val (.int 0), .val (.int 2), .val (.int 2), .val (.ref b1), .val (.ref b8), .val (.ref b15), .val (.ref w_INDETERMINATE)] [])) _
  refine XS.iconst X1.here hx rfl (hb hby at_248) ?_
  show Steps p.tables e below (T1.setTop (mkF m 249 #[.val (.int p1), .val (.int p2), .val (.int p3), .val (.int 0), .val (.int 2), .val (.int 2), .val (.ref b1), .val (.ref b8), .val (.ref b15), .val (.ref w_INDETERMINATE)] [(.int 1)])) _
  refine XS.goto X1.here hx rfl (pc0 := 249) (pc' := 253) rfl (hb hby at_249) (by decide) (by decide) ?_
  show Steps p.tables e below (T1.setTop (mkF m 253 #[.val (.int p1), .val (.int p2), .val (.int p3), .val (.int 0), .val (.int 2), .val (.int 2), .val (.ref b1), .val (.ref b8), .val (.ref b15), .val (.ref w_INDETERMINATE)] [(.int 1)])) _
  exact kt
def Q2_w_PARENT_OVERRIDES (Z : State) (w_PARENT_OVERRIDES : Addr) (h0 : Heap) (n0 : Nat) (v : Option Value) (h : Heap) (L : List Loc) : Prop := v = some (.int 1) ∧ Fr n0 L ∧ h = h0
set_option maxRecDepth 65536 in
set_option maxHeartbeats 40000000 in
theorem rm2_w_PARENT_OVERRIDES (l : Launch) (Z : State) (a0 : Array Value) (hw : ∀ d ∈ tables_1, d.before a0 Z = true) (ws : List Jvm.Cond) (w_PARENT_OVERRIDES : Addr) (h0 : Heap) (n0 : Nat) (Z0 : n0 ≤ h0.size) (F_ordinal_w_PARENT_OVERRIDES : Fld Z h0 w_PARENT_OVERRIDES "java/lang/Enum" "ordinal" "I" (.int 1)) :
    MetFree l (⟨"java/lang/Enum", "ordinal", "()I"⟩ : MethodName) (head1 (Jvm.Cond.code (⟨"java/lang/Enum", "ordinal", "()I"⟩ : MethodName) jdk_37_method_2_code 1 (some .int) :: ws) ({ frames := 0, cells := 0, slots := 0, locals := 0 } : Room)) (fun a U => a = #[(.ref w_PARENT_OVERRIDES)] ∧ Z.Warmed39 U.vm ∧ U.heap = h0) (fun _ _ _ _ _ => True) (fun _ U o U' => ∃ v L, o = .returned v ∧ Q2_w_PARENT_OVERRIDES Z w_PARENT_OVERRIDES h0 n0 v U'.heap L ∧ FrameEnd U o U' L ({ frames := 0, cells := 0, slots := 0, locals := 0 } : Room).cells ({ frames := 0, cells := 0, slots := 0, locals := 0 } : Room).slots) := by
  refine MetFree.of_bodySF (plainFor_of_name pn_2) hisR ?_
  intro p e s m args below meth c s₁ Bd hml0 hP hK
  obtain ⟨rfl, hZ, hh⟩ := hP
  have hx := Bd.exec
  have hby := Bd.bytes
  have hml : c.maxLocals = 1 := hml0
  have hown : s.vm.findClass "java/lang/Enum" = some m.cls := findClass_of_methodNamed Bd.named
  have hnm := (name_of_methodNamed Bd.named Bd.method).1
  have X0 : Stand p l e ({ frames := 0, cells := 0, slots := 0, locals := 0 } : Room) s m #[(.ref w_PARENT_OVERRIDES)] below meth c s₁ [] 0 0 := Stand.of_body Bd
  have e0 : s₁.heap = h0 := by rw [← hh, Bd.state]; rfl
  have N0 := Fr.nil n0
  have pre0 : ∀ t, Steps p.tables e below (s₁.setTop (mkF m 0 #[.val (.ref w_PARENT_OVERRIDES)] [])) t → Steps p.tables e below (s₁.setTop (entryFrame m #[(.ref w_PARENT_OVERRIDES)] 1)) t := fun t k => castTop (by first | (simp [entryFrame, mkF, argsToLocals, Value.category]; done) | rfl) k
  obtain ⟨T1, X1, e1, st1⟩ := getF X0 hx hZ hown (host := "") (Or.inl (hw _ (List.mem_of_getElem? (i := 34) rfl))) Via.refl e0 F_ordinal_w_PARENT_OVERRIDES (g := (mkF m 1 #[.val (.ref w_PARENT_OVERRIDES)] [(.ref w_PARENT_OVERRIDES)])) rfl rfl (hb hby d2_1)
  obtain ⟨fs, hr, hrun, hended, hW, hsame⟩ := X1.leave (v := some (.int 1)) (fun h => by rw [Bd.returns] at h; cases h)
  refine ⟨_, _, pre0 _ ?_, hrun, hended, _, _, rfl, ?_, ⟨_, rfl⟩, hW, hsame.mono (by decide) (by decide)⟩
  · show Steps p.tables e below (s₁.setTop (mkF m 0 #[.val (.ref w_PARENT_OVERRIDES)] [])) _
    refine XS.aloadN X0.here hx rfl (hb hby d2_0) rfl rfl ?_
    show Steps p.tables e below (s₁.setTop (mkF m 1 #[.val (.ref w_PARENT_OVERRIDES)] [(.ref w_PARENT_OVERRIDES)])) _
    refine st1 _ ?_
    show Steps p.tables e below (T1.setTop (mkF m 4 #[.val (.ref w_PARENT_OVERRIDES)] [(.int 1)])) _
    exact retI X1 hx Bd.returns (hb hby d2_4) hr
  · show Q2_w_PARENT_OVERRIDES Z w_PARENT_OVERRIDES h0 n0 _ T1.heap _
    rw [e1]
    exact ⟨rfl, N0, rfl⟩
def Q1_w_PARENT_OVERRIDES_w_PERMIT_w_PERMIT (Z : State) (w_PARENT_OVERRIDES : Addr) (w_PERMIT : Addr) (w_INDETERMINATE : Addr) (h0 : Heap) (n0 : Nat) (v : Option Value) (h : Heap) (L : List Loc) : Prop := v = some (.ref w_PERMIT) ∧ Fr n0 L ∧ h = h0
set_option maxRecDepth 65536 in
set_option maxHeartbeats 40000000 in
theorem rm1_w_PARENT_OVERRIDES_w_PERMIT_w_PERMIT (l : Launch) (Z : State) (a0 : Array Value) (hw : ∀ d ∈ tables_1, d.before a0 Z = true) (ws : List Jvm.Cond) (w_PARENT_OVERRIDES : Addr) (w_PERMIT : Addr) (w_INDETERMINATE : Addr) (h0 : Heap) (n0 : Nat) (Z0 : n0 ≤ h0.size) (F_ordinal_w_PARENT_OVERRIDES : Fld Z h0 w_PARENT_OVERRIDES "java/lang/Enum" "ordinal" "I" (.int 1)) (E_w_PARENT_OVERRIDES : Exa Z h0 w_PARENT_OVERRIDES "com/example/tributary/tributary/AccessList$InheritanceType") (S_INDETERMINATE : Sta Z h0 "com/example/tributary/tributary/AccessList$Decision" "INDETERMINATE" "Lcom/example/tributary/tributary/AccessList$Decision;" (.ref w_INDETERMINATE)) (n_w_INDETERMINATE_w_PERMIT : ¬ (w_INDETERMINATE = w_PERMIT)) :
    MetFree l (⟨"com/example/tributary/tributary/AccessList$InheritanceType", "combine", "(Lcom/example/tributary/tributary/AccessList$Decision;Lcom/example/tributary/tributary/AccessList$Decision;)Lcom/example/tributary/tributary/AccessList$Decision;"⟩ : MethodName) (head1 (Jvm.Cond.code (⟨"com/example/tributary/tributary/AccessList$InheritanceType", "combine", "(Lcom/example/tributary/tributary/AccessList$Decision;Lcom/example/tributary/tributary/AccessList$Decision;)Lcom/example/tributary/tributary/AccessList$Decision;"⟩ : MethodName) prog_6_method_4_code 3 (some (.object "com/example/tributary/tributary/AccessList$Decision")) :: ws) ({ frames := 1, cells := 0, slots := 0, locals := 12 } : Room)) (fun a U => a = #[(.ref w_PARENT_OVERRIDES), (.ref w_PERMIT), (.ref w_PERMIT)] ∧ Z.Warmed39 U.vm ∧ U.heap = h0) (fun _ _ _ _ _ => True) (fun _ U o U' => ∃ v L, o = .returned v ∧ Q1_w_PARENT_OVERRIDES_w_PERMIT_w_PERMIT Z w_PARENT_OVERRIDES w_PERMIT w_INDETERMINATE h0 n0 v U'.heap L ∧ FrameEnd U o U' L ({ frames := 1, cells := 0, slots := 0, locals := 12 } : Room).cells ({ frames := 1, cells := 0, slots := 0, locals := 12 } : Room).slots) := by
  refine MetFree.of_bodySF (plainFor_of_name pn_1) hisR ?_
  intro p e s m args below meth c s₁ Bd hml0 hP hK
  obtain ⟨rfl, hZ, hh⟩ := hP
  have hx := Bd.exec
  have hby := Bd.bytes
  have hml : c.maxLocals = 3 := hml0
  have hown : s.vm.findClass "com/example/tributary/tributary/AccessList$InheritanceType" = some m.cls := findClass_of_methodNamed Bd.named
  have hnm := (name_of_methodNamed Bd.named Bd.method).1
  have X0 : Stand p l e ({ frames := 1, cells := 0, slots := 0, locals := 12 } : Room) s m #[(.ref w_PARENT_OVERRIDES), (.ref w_PERMIT), (.ref w_PERMIT)] below meth c s₁ [] 0 0 := Stand.of_body Bd
  have e0 : s₁.heap = h0 := by rw [← hh, Bd.state]; rfl
  have N0 := Fr.nil n0
  have pre0 : ∀ t, Steps p.tables e below (s₁.setTop (mkF m 0 #[.val (.ref w_PARENT_OVERRIDES), .val (.ref w_PERMIT), .val (.ref w_PERMIT)] [])) t → Steps p.tables e below (s₁.setTop (entryFrame m #[(.ref w_PARENT_OVERRIDES), (.ref w_PERMIT), (.ref w_PERMIT)] 3)) t := fun t k => castTop (by first | (simp [entryFrame, mkF, argsToLocals, Value.category]; done) | rfl) k
  obtain ⟨cq1, kq1, q1a, q1b, q1c⟩ := isOf hZ e0 E_w_PARENT_OVERRIDES
  obtain ⟨_, _, ⟨T1, L1, k1, n1⟩, -, X1, ⟨Lc1, hQ1, l1, y1, z1⟩, st1⟩ := X0.virtualBackUp hx (x := (⟨"com/example/tributary/tributary/AccessList$InheritanceType", "ordinal", "()I"⟩ : MethodName)) (y := (⟨"java/lang/Enum", "ordinal", "()I"⟩ : MethodName)) (owner := "java/lang/Enum") hown (mvT hZ (hw _ (List.mem_of_getElem? (i := 27) rfl))) (mvT hZ (hw _ (List.mem_of_getElem? (i := 28) rfl))) (mvT hZ (hw _ (List.mem_of_getElem? (i := 29) rfl))) (by decide) (mvT hZ (hw _ (List.mem_of_getElem? (i := 31) rfl))) (mvT hZ (hw _ (List.mem_of_getElem? (i := 30) rfl))) (backOf (W := 0) (rm2_w_PARENT_OVERRIDES l Z a0 hw [] w_PARENT_OVERRIDES h0 n0 Z0 F_ordinal_w_PARENT_OVERRIDES) hZ (hw _ (List.mem_of_getElem? (i := 33) rfl)) (hw _ (List.mem_of_getElem? (i := 32) rfl)) (by decide) (by decide)) q1a q1c (g := (mkF m 1 #[.val (.ref w_PARENT_OVERRIDES), .val (.ref w_PERMIT), .val (.ref w_PERMIT)] [(.ref w_PARENT_OVERRIDES)])) rfl (by rw [hml]; rfl) (Steps.refl _) (argsL := []) (rest := []) (lenOf pd___I rfl) rfl (by show 2 * 0 + _ ≤ _; exact Nat.le_of_eq rfl) (hb hby d1_1) (fun _ _ => ⟨rfl, e0, (by decide : 0 + 0 ≤ _), (by decide : 0 + 0 ≤ _)⟩)
  dsimp only [Pt.U, Pt.locs, Pt.cells, Pt.slots] at X1 l1 y1 z1 st1 hQ1
  subst l1 y1 z1
  obtain ⟨rfl, N1q, e1⟩ := hQ1
  have N1 := Fr.app N0 N1q
  obtain ⟨T2, X2, e2, st2⟩ := getS2 X1 hx hZ hown (host := "") (Or.inl (hw _ (List.mem_of_getElem? (i := 36) rfl))) Via.refl e1 S_INDETERMINATE (g := (mkF m 62 #[.val (.ref w_PARENT_OVERRIDES), .val (.ref w_PERMIT), .val (.ref w_PERMIT)] [(.ref w_PERMIT)])) rfl (hb hby d1_62)
  obtain ⟨fs, hr, hrun, hended, hW, hsame⟩ := X2.leave (v := some (.ref w_PERMIT)) (fun h => by rw [Bd.returns] at h; cases h)
  refine ⟨_, _, pre0 _ ?_, hrun, hended, _, _, rfl, ?_, ⟨_, rfl⟩, hW, hsame.mono (by decide) (by decide)⟩
  · show Steps p.tables e below (s₁.setTop (mkF m 0 #[.val (.ref w_PARENT_OVERRIDES), .val (.ref w_PERMIT), .val (.ref w_PERMIT)] [])) _
    refine XS.aloadN X0.here hx rfl (hb hby d1_0) rfl rfl ?_
    show Steps p.tables e below (s₁.setTop (mkF m 1 #[.val (.ref w_PARENT_OVERRIDES), .val (.ref w_PERMIT), .val (.ref w_PERMIT)] [(.ref w_PARENT_OVERRIDES)])) _
    refine st1.trans ?_
    show Steps p.tables e below (T1.setTop (mkF m 4 #[.val (.ref w_PARENT_OVERRIDES), .val (.ref w_PERMIT), .val (.ref w_PERMIT)] [(.int 1)])) _
    refine XS.tswIn X1.here hx rfl (pc0 := 4) (pc' := 61) rfl (hb hby d1_4) rfl (by decide) (o := 57) (by decide) (by decide) (by decide) ?_
    show Steps p.tables e below (T1.setTop (mkF m 61 #[.val (.ref w_PARENT_OVERRIDES), .val (.ref w_PERMIT), .val (.ref w_PERMIT)] [])) _
    refine XS.aloadN X1.here hx rfl (hb hby d1_61) rfl rfl ?_
    show Steps p.tables e below (T1.setTop (mkF m 62 #[.val (.ref w_PARENT_OVERRIDES), .val (.ref w_PERMIT), .val (.ref w_PERMIT)] [(.ref w_PERMIT)])) _
    refine st2 _ ?_
    show Steps p.tables e below (T2.setTop (mkF m 65 #[.val (.ref w_PARENT_OVERRIDES), .val (.ref w_PERMIT), .val (.ref w_PERMIT)] [(.ref w_INDETERMINATE), (.ref w_PERMIT)])) _
    refine Jvm.RoadKit.acmp (g := (mkF m 65 #[.val (.ref w_PARENT_OVERRIDES), .val (.ref w_PERMIT), .val (.ref w_PERMIT)] [(.ref w_INDETERMINATE), (.ref w_PERMIT)])) X2 hx rfl rfl rfl (pc0 := 65) (pc' := 72) (same := false) rfl (hb hby d1_65) rfl (decide_eq_false fun q => (Ne.symm n_w_INDETERMINATE_w_PERMIT) (Value.ref.inj q)) (by decide) (by decide) ?_
    show Steps p.tables e below (T2.setTop (mkF m 72 #[.val (.ref w_PARENT_OVERRIDES), .val (.ref w_PERMIT), .val (.ref w_PERMIT)] [])) _
    refine XS.aloadN X2.here hx rfl (hb hby d1_72) rfl rfl ?_
    show Steps p.tables e below (T2.setTop (mkF m 73 #[.val (.ref w_PARENT_OVERRIDES), .val (.ref w_PERMIT), .val (.ref w_PERMIT)] [(.ref w_PERMIT)])) _
    refine XS.goto X2.here hx rfl (pc0 := 73) (pc' := 112) rfl (hb hby d1_73) (by decide) (by decide) ?_
    show Steps p.tables e below (T2.setTop (mkF m 112 #[.val (.ref w_PARENT_OVERRIDES), .val (.ref w_PERMIT), .val (.ref w_PERMIT)] [(.ref w_PERMIT)])) _
    jvm_step X2.here [X2.here.top, hx, (hb hby d1_112), X2.method', Bd.returns, Value.isRef, FieldType.isReference]
    first | (intro acts; rw [hr _ acts rfl rfl rfl]) | rw [hr _ _ rfl rfl rfl]
    exact Steps.refl _
  · show Q1_w_PARENT_OVERRIDES_w_PERMIT_w_PERMIT Z w_PARENT_OVERRIDES w_PERMIT w_INDETERMINATE h0 n0 _ T2.heap _
    rw [e2]
    exact ⟨rfl, N1, rfl⟩
set_option maxRecDepth 65536 in
set_option maxHeartbeats 40000000 in
theorem pc0_k100 {p : Program} {l : Launch} {e : Env} {s : State} {m : MethodId} {args : Array Value} {below : List Frame} {meth : Method} {c : Code} {T0 : State} {locs : List Loc} {Z : State} {a0 : Array Value} {h0 : Heap} {n0 : Nat} (p1 : Int32) (p2 : Int32) (p3 : Int32) (b1 : Addr) (b8 : Addr) (b15 : Addr) (k1 : ClassId) (w_CHILD_OVERRIDES : Addr) (w_PARENT_OVERRIDES : Addr) (w_AND_BOTH_PERMIT : Addr) (k8 : ClassId) (w_PERMIT : Addr) (w_DENY : Addr) (w_INDETERMINATE : Addr) (k15 : ClassId)
    (X0 : Stand p l e room_1 s m args below meth c T0 locs 3 33) (hx : p.tables.exec = Jvm.exec) (hZ : Z.Warmed39 s.vm) (hw : ∀ d ∈ tables_1, d.before a0 Z = true) (hby : c.code = code) (hml : c.maxLocals = 10) (hown : s.vm.findClass "com/example/tributary/tributary/InheritanceTypeCombinePinLaw" = some m.cls) (e0 : T0.heap = h0) (Z0 : n0 ≤ h0.size) (N0 : Fr n0 locs) (V_b1 : Arv Z h0 b1 k1 (.object "com/example/tributary/tributary/AccessList$InheritanceType") (3 : Int32) [(.ref w_CHILD_OVERRIDES), (.ref w_PARENT_OVERRIDES), (.ref w_AND_BOTH_PERMIT)] .null) (V_b8 : Arv Z h0 b8 k8 (.object "com/example/tributary/tributary/AccessList$Decision") (3 : Int32) [(.ref w_PERMIT), (.ref w_DENY), (.ref w_INDETERMINATE)] .null) (F_ordinal_w_PARENT_OVERRIDES : Fld Z h0 w_PARENT_OVERRIDES "java/lang/Enum" "ordinal" "I" (.int 1)) (E_w_PARENT_OVERRIDES : Exa Z h0 w_PARENT_OVERRIDES "com/example/tributary/tributary/AccessList$InheritanceType") (S_INDETERMINATE : Sta Z h0 "com/example/tributary/tributary/AccessList$Decision" "INDETERMINATE" "Lcom/example/tributary/tributary/AccessList$Decision;" (.ref w_INDETERMINATE)) (n_w_INDETERMINATE_w_PERMIT : ¬ (w_INDETERMINATE = w_PERMIT)) (V_b15 : Arv Z h0 b15 k15 .int (27 : Int32) [(.int 0), (.int 1), (.int 0), (.int 0), (.int 1), (.int 1), (.int 0), (.int 1), (.int 2), (.int 0), (.int 0), (.int 0), (.int 1), (.int 1), (.int 1), (.int 0), (.int 1), (.int 2), (.int 0), (.int 1), (.int 1), (.int 1), (.int 1), (.int 1), (.int 1), (.int 1), (.int 1)] (.int (0 : Int32))) :
    ∃ (T' : State) (L' : List Loc) (Ls : Array Slot), Stand p l e room_1 s m args below meth c T' L' 3 33 ∧ Fr n0 L' ∧ ∀ target, Steps p.tables e below (T'.setTop (mkF m 253 Ls [(.int 1)])) target → Steps p.tables e below (T0.setTop (mkF m 206 #[.val (.int p1), .val (.int p2), .val (.int p3), .val (.int 1), .val (.int 0), .val (.int 0), .val (.ref b1), .val (.ref b8), .val (.ref b15), .unset] [])) target := by
  obtain ⟨cq1, kq1, q1a, q1b, q1c⟩ := isOf hZ e0 E_w_PARENT_OVERRIDES
  obtain ⟨_, _, ⟨T1, L1, k1, n1⟩, -, X1, ⟨Lc1, hQ1, l1, y1, z1⟩, st1⟩ := X0.virtualBack hx (y := (⟨"com/example/tributary/tributary/AccessList$InheritanceType", "combine", "(Lcom/example/tributary/tributary/AccessList$Decision;Lcom/example/tributary/tributary/AccessList$Decision;)Lcom/example/tributary/tributary/AccessList$Decision;"⟩ : MethodName)) (z := (⟨"com/example/tributary/tributary/AccessList$InheritanceType", "combine", "(Lcom/example/tributary/tributary/AccessList$Decision;Lcom/example/tributary/tributary/AccessList$Decision;)Lcom/example/tributary/tributary/AccessList$Decision;"⟩ : MethodName)) hown (mvT hZ (hw _ (List.mem_of_getElem? (i := 22) rfl))) (mvT hZ (hw _ (List.mem_of_getElem? (i := 23) rfl))) (notFace_of_selects (args := #[]) (mvT hZ (hw _ (List.mem_of_getElem? (i := 25) rfl)))) (mvT hZ (hw _ (List.mem_of_getElem? (i := 25) rfl))) (mvT hZ (hw _ (List.mem_of_getElem? (i := 24) rfl))) (by decide) (backOf (W := 0) (rm1_w_PARENT_OVERRIDES_w_PERMIT_w_PERMIT l Z a0 hw [] w_PARENT_OVERRIDES w_PERMIT w_INDETERMINATE h0 n0 Z0 F_ordinal_w_PARENT_OVERRIDES E_w_PARENT_OVERRIDES S_INDETERMINATE n_w_INDETERMINATE_w_PERMIT) hZ (hw _ (List.mem_of_getElem? (i := 26) rfl)) (hw _ (List.mem_of_getElem? (i := 4) rfl)) (by decide) (by decide)) q1a q1c (g := (mkF m 220 #[.val (.int p1), .val (.int p2), .val (.int p3), .val (.int 1), .val (.int 0), .val (.int 0), .val (.ref b1), .val (.ref b8), .val (.ref b15), .unset] [(.ref w_PERMIT), (.ref w_PERMIT), (.ref w_PARENT_OVERRIDES)])) rfl (by rw [hml]; rfl) (Steps.refl _) (argsL := [(.ref w_PERMIT), (.ref w_PERMIT)]) (rest := []) (lenOf pd__Lcom_example_tributary_tributary_AccessList_Decision_Lcom_example_tributary_tributary_AccessList_Decision__Lcom_example_tributary_tributary_AccessList_Decision_ rfl) rfl (by show 2 * 0 + _ ≤ _; exact Nat.le_of_eq rfl) (hb hby at_220) (fun _ _ => ⟨rfl, e0, (by decide : 3 + 0 ≤ _), (by decide : 33 + 0 ≤ _)⟩)
  dsimp only [Pt.U, Pt.locs, Pt.cells, Pt.slots] at X1 l1 y1 z1 st1 hQ1
  subst l1 y1 z1
  obtain ⟨rfl, N1q, e1⟩ := hQ1
  have N1 := Fr.app N0 N1q
  refine ⟨T1, _, #[.val (.int p1), .val (.int p2), .val (.int p3), .val (.int 1), .val (.int 0), .val (.int 0), .val (.ref b1), .val (.ref b8), .val (.ref b15), .val (.ref w_PERMIT)], X1, N1, fun target kt => ?_⟩
  show Steps p.tables e below (T0.setTop (mkF m 206 #[.val (.int p1), .val (.int p2), .val (.int p3), .val (.int 1), .val (.int 0), .val (.int 0), .val (.ref b1), .val (.ref b8), .val (.ref b15), .unset] [])) _
  refine XS.aload X0.here hx rfl (hb hby at_206) rfl rfl ?_
  show Steps p.tables e below (T0.setTop (mkF m 208 #[.val (.int p1), .val (.int p2), .val (.int p3), .val (.int 1), .val (.int 0), .val (.int 0), .val (.ref b1), .val (.ref b8), .val (.ref b15), .unset] [(.ref b1)])) _
  refine XS.iloadN X0.here hx rfl (hb hby at_208) rfl ?_
  show Steps p.tables e below (T0.setTop (mkF m 209 #[.val (.int p1), .val (.int p2), .val (.int p3), .val (.int 1), .val (.int 0), .val (.int 0), .val (.ref b1), .val (.ref b8), .val (.ref b15), .unset] [(.int 1), (.ref b1)])) _
  refine own_ldR X0 hx hZ e0 V_b1 (j := (1 : Int32)) ⟨by decide, by decide⟩ rfl (g := (mkF m 209 #[.val (.int p1), .val (.int p2), .val (.int p3), .val (.int 1), .val (.int 0), .val (.int 0), .val (.ref b1), .val (.ref b8), .val (.ref b15), .unset] [(.int 1), (.ref b1)])) rfl rfl (hb hby at_209) _ ?_
  show Steps p.tables e below (T0.setTop (mkF m 210 #[.val (.int p1), .val (.int p2), .val (.int p3), .val (.int 1), .val (.int 0), .val (.int 0), .val (.ref b1), .val (.ref b8), .val (.ref b15), .unset] [(.ref w_PARENT_OVERRIDES)])) _
  refine XS.aload X0.here hx rfl (hb hby at_210) rfl rfl ?_
  show Steps p.tables e below (T0.setTop (mkF m 212 #[.val (.int p1), .val (.int p2), .val (.int p3), .val (.int 1), .val (.int 0), .val (.int 0), .val (.ref b1), .val (.ref b8), .val (.ref b15), .unset] [(.ref b8), (.ref w_PARENT_OVERRIDES)])) _
  refine XS.iload X0.here hx rfl (hb hby at_212) rfl ?_
  show Steps p.tables e below (T0.setTop (mkF m 214 #[.val (.int p1), .val (.int p2), .val (.int p3), .val (.int 1), .val (.int 0), .val (.int 0), .val (.ref b1), .val (.ref b8), .val (.ref b15), .unset] [(.int 0), (.ref b8), (.ref w_PARENT_OVERRIDES)])) _
  refine own_ldR X0 hx hZ e0 V_b8 (j := (0 : Int32)) ⟨by decide, by decide⟩ rfl (g := (mkF m 214 #[.val (.int p1), .val (.int p2), .val (.int p3), .val (.int 1), .val (.int 0), .val (.int 0), .val (.ref b1), .val (.ref b8), .val (.ref b15), .unset] [(.int 0), (.ref b8), (.ref w_PARENT_OVERRIDES)])) rfl rfl (hb hby at_214) _ ?_
  show Steps p.tables e below (T0.setTop (mkF m 215 #[.val (.int p1), .val (.int p2), .val (.int p3), .val (.int 1), .val (.int 0), .val (.int 0), .val (.ref b1), .val (.ref b8), .val (.ref b15), .unset] [(.ref w_PERMIT), (.ref w_PARENT_OVERRIDES)])) _
  refine XS.aload X0.here hx rfl (hb hby at_215) rfl rfl ?_
  show Steps p.tables e below (T0.setTop (mkF m 217 #[.val (.int p1), .val (.int p2), .val (.int p3), .val (.int 1), .val (.int 0), .val (.int 0), .val (.ref b1), .val (.ref b8), .val (.ref b15), .unset] [(.ref b8), (.ref w_PERMIT), (.ref w_PARENT_OVERRIDES)])) _
  refine XS.iload X0.here hx rfl (hb hby at_217) rfl ?_
  show Steps p.tables e below (T0.setTop (mkF m 219 #[.val (.int p1), .val (.int p2), .val (.int p3), .val (.int 1), .val (.int 0), .val (.int 0), .val (.ref b1), .val (.ref b8), .val (.ref b15), .unset] [(.int 0), (.ref b8), (.ref w_PERMIT), (.ref w_PARENT_OVERRIDES)])) _
  refine own_ldR X0 hx hZ e0 V_b8 (j := (0 : Int32)) ⟨by decide, by decide⟩ rfl (g := (mkF m 219 #[.val (.int p1), .val (.int p2), .val (.int p3), .val (.int 1), .val (.int 0), .val (.int 0), .val (.ref b1), .val (.ref b8), .val (.ref b15), .unset] [(.int 0), (.ref b8), (.ref w_PERMIT), (.ref w_PARENT_OVERRIDES)])) rfl rfl (hb hby at_219) _ ?_
  show Steps p.tables e below (T0.setTop (mkF m 220 #[.val (.int p1), .val (.int p2), .val (.int p3), .val (.int 1), .val (.int 0), .val (.int 0), .val (.ref b1), .val (.ref b8), .val (.ref b15), .unset] [(.ref w_PERMIT), (.ref w_PERMIT), (.ref w_PARENT_OVERRIDES)])) _
  refine st1.trans ?_
  show Steps p.tables e below (T1.setTop (mkF m 223 #[.val (.int p1), .val (.int p2), .val (.int p3), .val (.int 1), .val (.int 0), .val (.int 0), .val (.ref b1), .val (.ref b8), .val (.ref b15), .unset] [(.ref w_PERMIT)])) _
  refine XS.astore X1.here hx rfl (hb hby at_223) rfl rfl (l' := #[.val (.int p1), .val (.int p2), .val (.int p3), .val (.int 1), .val (.int 0), .val (.int 0), .val (.ref b1), .val (.ref b8), .val (.ref b15), .val (.ref w_PERMIT)]) rfl ?_
  show Steps p.tables e below (T1.setTop (mkF m 225 #[.val (.int p1), .val (.int p2), .val (.int p3), .val (.int 1), .val (.int 0), .val (.int 0), .val (.ref b1), .val (.ref b8), .val (.ref b15), .val (.ref w_PERMIT)] [])) _
  refine XS.aload X1.here hx rfl (hb hby at_225) rfl rfl ?_
  show Steps p.tables e below (T1.setTop (mkF m 227 #[.val (.int p1), .val (.int p2), .val (.int p3), .val (.int 1), .val (.int 0), .val (.int 0), .val (.ref b1), .val (.ref b8), .val (.ref b15), .val (.ref w_PERMIT)] [(.ref w_PERMIT)])) _
  refine XS.aload X1.here hx rfl (hb hby at_227) rfl rfl ?_
  show Steps p.tables e below (T1.setTop (mkF m 229 #[.val (.int p1), .val (.int p2), .val (.int p3), .val (.int 1), .val (.int 0), .val (.int 0), .val (.ref b1), .val (.ref b8), .val (.ref b15), .val (.ref w_PERMIT)] [(.ref b8), (.ref w_PERMIT)])) _
  refine XS.aload X1.here hx rfl (hb hby at_229) rfl rfl ?_
  show Steps p.tables e below (T1.setTop (mkF m 231 #[.val (.int p1), .val (.int p2), .val (.int p3), .val (.int 1), .val (.int 0), .val (.int 0), .val (.ref b1), .val (.ref b8), .val (.ref b15), .val (.ref w_PERMIT)] [(.ref b15), (.ref b8), (.ref w_PERMIT)])) _
  refine XS.iloadN X1.here hx rfl (hb hby at_231) rfl ?_
  show Steps p.tables e below (T1.setTop (mkF m 232 #[.val (.int p1), .val (.int p2), .val (.int p3), .val (.int 1), .val (.int 0), .val (.int 0), .val (.ref b1), .val (.ref b8), .val (.ref b15), .val (.ref w_PERMIT)] [(.int 1), (.ref b15), (.ref b8), (.ref w_PERMIT)])) _
  refine XS.bipush X1.here hx rfl (hb hby at_232) ?_
  show Steps p.tables e below (T1.setTop (mkF m 234 #[.val (.int p1), .val (.int p2), .val (.int p3), .val (.int 1), .val (.int 0), .val (.int 0), .val (.ref b1), .val (.ref b8), .val (.ref b15), .val (.ref w_PERMIT)] [(.int 9), (.int 1), (.ref b15), (.ref b8), (.ref w_PERMIT)])) _
  refine XS.imul X1.here hx rfl (hb hby at_234) rfl ?_
  show Steps p.tables e below (T1.setTop (mkF m 235 #[.val (.int p1), .val (.int p2), .val (.int p3), .val (.int 1), .val (.int 0), .val (.int 0), .val (.ref b1), .val (.ref b8), .val (.ref b15), .val (.ref w_PERMIT)] [(.int ((1 : Int32) * (9 : Int32))), (.ref b15), (.ref b8), (.ref w_PERMIT)])) _
  rw [(by decide : ((1 : Int32) * (9 : Int32)) = (9 : Int32))]
  show Steps p.tables e below (T1.setTop (mkF m 235 #[.val (.int p1), .val (.int p2), .val (.int p3), .val (.int 1), .val (.int 0), .val (.int 0), .val (.ref b1), .val (.ref b8), .val (.ref b15), .val (.ref w_PERMIT)] [(.int 9), (.ref b15), (.ref b8), (.ref w_PERMIT)])) _
  refine XS.iload X1.here hx rfl (hb hby at_235) rfl ?_
  show Steps p.tables e below (T1.setTop (mkF m 237 #[.val (.int p1), .val (.int p2), .val (.int p3), .val (.int 1), .val (.int 0), .val (.int 0), .val (.ref b1), .val (.ref b8), .val (.ref b15), .val (.ref w_PERMIT)] [(.int 0), (.int 9), (.ref b15), (.ref b8), (.ref w_PERMIT)])) _
  refine XS.iconst X1.here hx rfl (hb hby at_237) ?_
  show Steps p.tables e below (T1.setTop (mkF m 238 #[.val (.int p1), .val (.int p2), .val (.int p3), .val (.int 1), .val (.int 0), .val (.int 0), .val (.ref b1), .val (.ref b8), .val (.ref b15), .val (.ref w_PERMIT)] [(.int 3), (.int 0), (.int 9), (.ref b15), (.ref b8), (.ref w_PERMIT)])) _
  refine XS.imul X1.here hx rfl (hb hby at_238) rfl ?_
  show Steps p.tables e below (T1.setTop (mkF m 239 #[.val (.int p1), .val (.int p2), .val (.int p3), .val (.int 1), .val (.int 0), .val (.int 0), .val (.ref b1), .val (.ref b8), .val (.ref b15), .val (.ref w_PERMIT)] [(.int ((0 : Int32) * (3 : Int32))), (.int 9), (.ref b15), (.ref b8), (.ref w_PERMIT)])) _
  rw [(by decide : ((0 : Int32) * (3 : Int32)) = (0 : Int32))]
  show Steps p.tables e below (T1.setTop (mkF m 239 #[.val (.int p1), .val (.int p2), .val (.int p3), .val (.int 1), .val (.int 0), .val (.int 0), .val (.ref b1), .val (.ref b8), .val (.ref b15), .val (.ref w_PERMIT)] [(.int 0), (.int 9), (.ref b15), (.ref b8), (.ref w_PERMIT)])) _
  refine XS.iadd X1.here hx rfl (hb hby at_239) rfl ?_
  show Steps p.tables e below (T1.setTop (mkF m 240 #[.val (.int p1), .val (.int p2), .val (.int p3), .val (.int 1), .val (.int 0), .val (.int 0), .val (.ref b1), .val (.ref b8), .val (.ref b15), .val (.ref w_PERMIT)] [(.int ((9 : Int32) + (0 : Int32))), (.ref b15), (.ref b8), (.ref w_PERMIT)])) _
  rw [(by decide : ((9 : Int32) + (0 : Int32)) = (9 : Int32))]
  show Steps p.tables e below (T1.setTop (mkF m 240 #[.val (.int p1), .val (.int p2), .val (.int p3), .val (.int 1), .val (.int 0), .val (.int 0), .val (.ref b1), .val (.ref b8), .val (.ref b15), .val (.ref w_PERMIT)] [(.int 9), (.ref b15), (.ref b8), (.ref w_PERMIT)])) _
  refine XS.iload X1.here hx rfl (hb hby at_240) rfl ?_
  show Steps p.tables e below (T1.setTop (mkF m 242 #[.val (.int p1), .val (.int p2), .val (.int p3), .val (.int 1), .val (.int 0), .val (.int 0), .val (.ref b1), .val (.ref b8), .val (.ref b15), .val (.ref w_PERMIT)] [(.int 0), (.int 9), (.ref b15), (.ref b8), (.ref w_PERMIT)])) _
  refine XS.iadd X1.here hx rfl (hb hby at_242) rfl ?_
  show Steps p.tables e below (T1.setTop (mkF m 243 #[.val (.int p1), .val (.int p2), .val (.int p3), .val (.int 1), .val (.int 0), .val (.int 0), .val (.ref b1), .val (.ref b8), .val (.ref b15), .val (.ref w_PERMIT)] [(.int ((9 : Int32) + (0 : Int32))), (.ref b15), (.ref b8), (.ref w_PERMIT)])) _
  rw [(by decide : ((9 : Int32) + (0 : Int32)) = (9 : Int32))]
  show Steps p.tables e below (T1.setTop (mkF m 243 #[.val (.int p1), .val (.int p2), .val (.int p3), .val (.int 1), .val (.int 0), .val (.int 0), .val (.ref b1), .val (.ref b8), .val (.ref b15), .val (.ref w_PERMIT)] [(.int 9), (.ref b15), (.ref b8), (.ref w_PERMIT)])) _
  refine own_ldI X1 hx hZ e1 V_b15 (j := (9 : Int32)) ⟨by decide, by decide⟩ rfl (g := (mkF m 243 #[.val (.int p1), .val (.int p2), .val (.int p3), .val (.int 1), .val (.int 0), .val (.int 0), .val (.ref b1), .val (.ref b8), .val (.ref b15), .val (.ref w_PERMIT)] [(.int 9), (.ref b15), (.ref b8), (.ref w_PERMIT)])) rfl rfl (hb hby at_243) _ ?_
  show Steps p.tables e below (T1.setTop (mkF m 244 #[.val (.int p1), .val (.int p2), .val (.int p3), .val (.int 1), .val (.int 0), .val (.int 0), .val (.ref b1), .val (.ref b8), .val (.ref b15), .val (.ref w_PERMIT)] [(.int 0), (.ref b8), (.ref w_PERMIT)])) _
  refine own_ldR X1 hx hZ e1 V_b8 (j := (0 : Int32)) ⟨by decide, by decide⟩ rfl (g := (mkF m 244 #[.val (.int p1), .val (.int p2), .val (.int p3), .val (.int 1), .val (.int 0), .val (.int 0), .val (.ref b1), .val (.ref b8), .val (.ref b15), .val (.ref w_PERMIT)] [(.int 0), (.ref b8), (.ref w_PERMIT)])) rfl rfl (hb hby at_244) _ ?_
  show Steps p.tables e below (T1.setTop (mkF m 245 #[.val (.int p1), .val (.int p2), .val (.int p3), .val (.int 1), .val (.int 0), .val (.int 0), .val (.ref b1), .val (.ref b8), .val (.ref b15), .val (.ref w_PERMIT)] [(.ref w_PERMIT), (.ref w_PERMIT)])) _
  refine Jvm.RoadKit.acmp (g := (mkF m 245 #[.val (.int p1), .val (.int p2), .val (.int p3), .val (.int 1), .val (.int 0), .val (.int 0), .val (.ref b1), .val (.ref b8), .val (.ref b15), .val (.ref w_PERMIT)] [(.ref w_PERMIT), (.ref w_PERMIT)])) X1 hx rfl rfl rfl (pc0 := 245) (pc' := 248) (same := true) rfl (hb hby at_245) rfl (decide_eq_true rfl) (by decide) (by decide) ?_
  show Steps p.tables e below (T1.setTop (mkF m 248 #[.val (.int p1), .val (.int p2), .val (.int p3), .val (.int 1), .val (.int 0), .val (.int 0), .val (.ref b1), .val (.ref b8), .val (.ref b15), .val (.ref w_PERMIT)] [])) _
  refine XS.iconst X1.here hx rfl (hb hby at_248) ?_
  show Steps p.tables e below (T1.setTop (mkF m 249 #[.val (.int p1), .val (.int p2), .val (.int p3), .val (.int 1), .val (.int 0), .val (.int 0), .val (.ref b1), .val (.ref b8), .val (.ref b15), .val (.ref w_PERMIT)] [(.int 1)])) _
  refine XS.goto X1.here hx rfl (pc0 := 249) (pc' := 253) rfl (hb hby at_249) (by decide) (by decide) ?_
  show Steps p.tables e below (T1.setTop (mkF m 253 #[.val (.int p1), .val (.int p2), .val (.int p3), .val (.int 1), .val (.int 0), .val (.int 0), .val (.ref b1), .val (.ref b8), .val (.ref b15), .val (.ref w_PERMIT)] [(.int 1)])) _
  exact kt
def Q1_w_PARENT_OVERRIDES_w_PERMIT_w_DENY (Z : State) (w_PARENT_OVERRIDES : Addr) (w_PERMIT : Addr) (w_DENY : Addr) (w_INDETERMINATE : Addr) (h0 : Heap) (n0 : Nat) (v : Option Value) (h : Heap) (L : List Loc) : Prop := v = some (.ref w_PERMIT) ∧ Fr n0 L ∧ h = h0
set_option maxRecDepth 65536 in
set_option maxHeartbeats 40000000 in
theorem rm1_w_PARENT_OVERRIDES_w_PERMIT_w_DENY (l : Launch) (Z : State) (a0 : Array Value) (hw : ∀ d ∈ tables_1, d.before a0 Z = true) (ws : List Jvm.Cond) (w_PARENT_OVERRIDES : Addr) (w_PERMIT : Addr) (w_DENY : Addr) (w_INDETERMINATE : Addr) (h0 : Heap) (n0 : Nat) (Z0 : n0 ≤ h0.size) (F_ordinal_w_PARENT_OVERRIDES : Fld Z h0 w_PARENT_OVERRIDES "java/lang/Enum" "ordinal" "I" (.int 1)) (E_w_PARENT_OVERRIDES : Exa Z h0 w_PARENT_OVERRIDES "com/example/tributary/tributary/AccessList$InheritanceType") (S_INDETERMINATE : Sta Z h0 "com/example/tributary/tributary/AccessList$Decision" "INDETERMINATE" "Lcom/example/tributary/tributary/AccessList$Decision;" (.ref w_INDETERMINATE)) (n_w_INDETERMINATE_w_PERMIT : ¬ (w_INDETERMINATE = w_PERMIT)) :
    MetFree l (⟨"com/example/tributary/tributary/AccessList$InheritanceType", "combine", "(Lcom/example/tributary/tributary/AccessList$Decision;Lcom/example/tributary/tributary/AccessList$Decision;)Lcom/example/tributary/tributary/AccessList$Decision;"⟩ : MethodName) (head1 (Jvm.Cond.code (⟨"com/example/tributary/tributary/AccessList$InheritanceType", "combine", "(Lcom/example/tributary/tributary/AccessList$Decision;Lcom/example/tributary/tributary/AccessList$Decision;)Lcom/example/tributary/tributary/AccessList$Decision;"⟩ : MethodName) prog_6_method_4_code 3 (some (.object "com/example/tributary/tributary/AccessList$Decision")) :: ws) ({ frames := 1, cells := 0, slots := 0, locals := 12 } : Room)) (fun a U => a = #[(.ref w_PARENT_OVERRIDES), (.ref w_PERMIT), (.ref w_DENY)] ∧ Z.Warmed39 U.vm ∧ U.heap = h0) (fun _ _ _ _ _ => True) (fun _ U o U' => ∃ v L, o = .returned v ∧ Q1_w_PARENT_OVERRIDES_w_PERMIT_w_DENY Z w_PARENT_OVERRIDES w_PERMIT w_DENY w_INDETERMINATE h0 n0 v U'.heap L ∧ FrameEnd U o U' L ({ frames := 1, cells := 0, slots := 0, locals := 12 } : Room).cells ({ frames := 1, cells := 0, slots := 0, locals := 12 } : Room).slots) := by
  refine MetFree.of_bodySF (plainFor_of_name pn_1) hisR ?_
  intro p e s m args below meth c s₁ Bd hml0 hP hK
  obtain ⟨rfl, hZ, hh⟩ := hP
  have hx := Bd.exec
  have hby := Bd.bytes
  have hml : c.maxLocals = 3 := hml0
  have hown : s.vm.findClass "com/example/tributary/tributary/AccessList$InheritanceType" = some m.cls := findClass_of_methodNamed Bd.named
  have hnm := (name_of_methodNamed Bd.named Bd.method).1
  have X0 : Stand p l e ({ frames := 1, cells := 0, slots := 0, locals := 12 } : Room) s m #[(.ref w_PARENT_OVERRIDES), (.ref w_PERMIT), (.ref w_DENY)] below meth c s₁ [] 0 0 := Stand.of_body Bd
  have e0 : s₁.heap = h0 := by rw [← hh, Bd.state]; rfl
  have N0 := Fr.nil n0
  have pre0 : ∀ t, Steps p.tables e below (s₁.setTop (mkF m 0 #[.val (.ref w_PARENT_OVERRIDES), .val (.ref w_PERMIT), .val (.ref w_DENY)] [])) t → Steps p.tables e below (s₁.setTop (entryFrame m #[(.ref w_PARENT_OVERRIDES), (.ref w_PERMIT), (.ref w_DENY)] 3)) t := fun t k => castTop (by first | (simp [entryFrame, mkF, argsToLocals, Value.category]; done) | rfl) k
  obtain ⟨cq1, kq1, q1a, q1b, q1c⟩ := isOf hZ e0 E_w_PARENT_OVERRIDES
  obtain ⟨_, _, ⟨T1, L1, k1, n1⟩, -, X1, ⟨Lc1, hQ1, l1, y1, z1⟩, st1⟩ := X0.virtualBackUp hx (x := (⟨"com/example/tributary/tributary/AccessList$InheritanceType", "ordinal", "()I"⟩ : MethodName)) (y := (⟨"java/lang/Enum", "ordinal", "()I"⟩ : MethodName)) (owner := "java/lang/Enum") hown (mvT hZ (hw _ (List.mem_of_getElem? (i := 27) rfl))) (mvT hZ (hw _ (List.mem_of_getElem? (i := 28) rfl))) (mvT hZ (hw _ (List.mem_of_getElem? (i := 29) rfl))) (by decide) (mvT hZ (hw _ (List.mem_of_getElem? (i := 31) rfl))) (mvT hZ (hw _ (List.mem_of_getElem? (i := 30) rfl))) (backOf (W := 0) (rm2_w_PARENT_OVERRIDES l Z a0 hw [] w_PARENT_OVERRIDES h0 n0 Z0 F_ordinal_w_PARENT_OVERRIDES) hZ (hw _ (List.mem_of_getElem? (i := 33) rfl)) (hw _ (List.mem_of_getElem? (i := 32) rfl)) (by decide) (by decide)) q1a q1c (g := (mkF m 1 #[.val (.ref w_PARENT_OVERRIDES), .val (.ref w_PERMIT), .val (.ref w_DENY)] [(.ref w_PARENT_OVERRIDES)])) rfl (by rw [hml]; rfl) (Steps.refl _) (argsL := []) (rest := []) (lenOf pd___I rfl) rfl (by show 2 * 0 + _ ≤ _; exact Nat.le_of_eq rfl) (hb hby d1_1) (fun _ _ => ⟨rfl, e0, (by decide : 0 + 0 ≤ _), (by decide : 0 + 0 ≤ _)⟩)
  dsimp only [Pt.U, Pt.locs, Pt.cells, Pt.slots] at X1 l1 y1 z1 st1 hQ1
  subst l1 y1 z1
  obtain ⟨rfl, N1q, e1⟩ := hQ1
  have N1 := Fr.app N0 N1q
  obtain ⟨T2, X2, e2, st2⟩ := getS2 X1 hx hZ hown (host := "") (Or.inl (hw _ (List.mem_of_getElem? (i := 36) rfl))) Via.refl e1 S_INDETERMINATE (g := (mkF m 62 #[.val (.ref w_PARENT_OVERRIDES), .val (.ref w_PERMIT), .val (.ref w_DENY)] [(.ref w_PERMIT)])) rfl (hb hby d1_62)
  obtain ⟨fs, hr, hrun, hended, hW, hsame⟩ := X2.leave (v := some (.ref w_PERMIT)) (fun h => by rw [Bd.returns] at h; cases h)
  refine ⟨_, _, pre0 _ ?_, hrun, hended, _, _, rfl, ?_, ⟨_, rfl⟩, hW, hsame.mono (by decide) (by decide)⟩
  · show Steps p.tables e below (s₁.setTop (mkF m 0 #[.val (.ref w_PARENT_OVERRIDES), .val (.ref w_PERMIT), .val (.ref w_DENY)] [])) _
    refine XS.aloadN X0.here hx rfl (hb hby d1_0) rfl rfl ?_
    show Steps p.tables e below (s₁.setTop (mkF m 1 #[.val (.ref w_PARENT_OVERRIDES), .val (.ref w_PERMIT), .val (.ref w_DENY)] [(.ref w_PARENT_OVERRIDES)])) _
    refine st1.trans ?_
    show Steps p.tables e below (T1.setTop (mkF m 4 #[.val (.ref w_PARENT_OVERRIDES), .val (.ref w_PERMIT), .val (.ref w_DENY)] [(.int 1)])) _
    refine XS.tswIn X1.here hx rfl (pc0 := 4) (pc' := 61) rfl (hb hby d1_4) rfl (by decide) (o := 57) (by decide) (by decide) (by decide) ?_
    show Steps p.tables e below (T1.setTop (mkF m 61 #[.val (.ref w_PARENT_OVERRIDES), .val (.ref w_PERMIT), .val (.ref w_DENY)] [])) _
    refine XS.aloadN X1.here hx rfl (hb hby d1_61) rfl rfl ?_
    show Steps p.tables e below (T1.setTop (mkF m 62 #[.val (.ref w_PARENT_OVERRIDES), .val (.ref w_PERMIT), .val (.ref w_DENY)] [(.ref w_PERMIT)])) _
    refine st2 _ ?_
    show Steps p.tables e below (T2.setTop (mkF m 65 #[.val (.ref w_PARENT_OVERRIDES), .val (.ref w_PERMIT), .val (.ref w_DENY)] [(.ref w_INDETERMINATE), (.ref w_PERMIT)])) _
    refine Jvm.RoadKit.acmp (g := (mkF m 65 #[.val (.ref w_PARENT_OVERRIDES), .val (.ref w_PERMIT), .val (.ref w_DENY)] [(.ref w_INDETERMINATE), (.ref w_PERMIT)])) X2 hx rfl rfl rfl (pc0 := 65) (pc' := 72) (same := false) rfl (hb hby d1_65) rfl (decide_eq_false fun q => (Ne.symm n_w_INDETERMINATE_w_PERMIT) (Value.ref.inj q)) (by decide) (by decide) ?_
    show Steps p.tables e below (T2.setTop (mkF m 72 #[.val (.ref w_PARENT_OVERRIDES), .val (.ref w_PERMIT), .val (.ref w_DENY)] [])) _
    refine XS.aloadN X2.here hx rfl (hb hby d1_72) rfl rfl ?_
    show Steps p.tables e below (T2.setTop (mkF m 73 #[.val (.ref w_PARENT_OVERRIDES), .val (.ref w_PERMIT), .val (.ref w_DENY)] [(.ref w_PERMIT)])) _
    refine XS.goto X2.here hx rfl (pc0 := 73) (pc' := 112) rfl (hb hby d1_73) (by decide) (by decide) ?_
    show Steps p.tables e below (T2.setTop (mkF m 112 #[.val (.ref w_PARENT_OVERRIDES), .val (.ref w_PERMIT), .val (.ref w_DENY)] [(.ref w_PERMIT)])) _
    jvm_step X2.here [X2.here.top, hx, (hb hby d1_112), X2.method', Bd.returns, Value.isRef, FieldType.isReference]
    first | (intro acts; rw [hr _ acts rfl rfl rfl]) | rw [hr _ _ rfl rfl rfl]
    exact Steps.refl _
  · show Q1_w_PARENT_OVERRIDES_w_PERMIT_w_DENY Z w_PARENT_OVERRIDES w_PERMIT w_DENY w_INDETERMINATE h0 n0 _ T2.heap _
    rw [e2]
    exact ⟨rfl, N1, rfl⟩
set_option maxRecDepth 65536 in
set_option maxHeartbeats 40000000 in
theorem pc0_k101 {p : Program} {l : Launch} {e : Env} {s : State} {m : MethodId} {args : Array Value} {below : List Frame} {meth : Method} {c : Code} {T0 : State} {locs : List Loc} {Z : State} {a0 : Array Value} {h0 : Heap} {n0 : Nat} (p1 : Int32) (p2 : Int32) (p3 : Int32) (b1 : Addr) (b8 : Addr) (b15 : Addr) (k1 : ClassId) (w_CHILD_OVERRIDES : Addr) (w_PARENT_OVERRIDES : Addr) (w_AND_BOTH_PERMIT : Addr) (k8 : ClassId) (w_PERMIT : Addr) (w_DENY : Addr) (w_INDETERMINATE : Addr) (k15 : ClassId)
    (X0 : Stand p l e room_1 s m args below meth c T0 locs 3 33) (hx : p.tables.exec = Jvm.exec) (hZ : Z.Warmed39 s.vm) (hw : ∀ d ∈ tables_1, d.before a0 Z = true) (hby : c.code = code) (hml : c.maxLocals = 10) (hown : s.vm.findClass "com/example/tributary/tributary/InheritanceTypeCombinePinLaw" = some m.cls) (e0 : T0.heap = h0) (Z0 : n0 ≤ h0.size) (N0 : Fr n0 locs) (V_b1 : Arv Z h0 b1 k1 (.object "com/example/tributary/tributary/AccessList$InheritanceType") (3 : Int32) [(.ref w_CHILD_OVERRIDES), (.ref w_PARENT_OVERRIDES), (.ref w_AND_BOTH_PERMIT)] .null) (V_b8 : Arv Z h0 b8 k8 (.object "com/example/tributary/tributary/AccessList$Decision") (3 : Int32) [(.ref w_PERMIT), (.ref w_DENY), (.ref w_INDETERMINATE)] .null) (F_ordinal_w_PARENT_OVERRIDES : Fld Z h0 w_PARENT_OVERRIDES "java/lang/Enum" "ordinal" "I" (.int 1)) (E_w_PARENT_OVERRIDES : Exa Z h0 w_PARENT_OVERRIDES "com/example/tributary/tributary/AccessList$InheritanceType") (S_INDETERMINATE : Sta Z h0 "com/example/tributary/tributary/AccessList$Decision" "INDETERMINATE" "Lcom/example/tributary/tributary/AccessList$Decision;" (.ref w_INDETERMINATE)) (n_w_INDETERMINATE_w_PERMIT : ¬ (w_INDETERMINATE = w_PERMIT)) (V_b15 : Arv Z h0 b15 k15 .int (27 : Int32) [(.int 0), (.int 1), (.int 0), (.int 0), (.int 1), (.int 1), (.int 0), (.int 1), (.int 2), (.int 0), (.int 0), (.int 0), (.int 1), (.int 1), (.int 1), (.int 0), (.int 1), (.int 2), (.int 0), (.int 1), (.int 1), (.int 1), (.int 1), (.int 1), (.int 1), (.int 1), (.int 1)] (.int (0 : Int32))) :
    ∃ (T' : State) (L' : List Loc) (Ls : Array Slot), Stand p l e room_1 s m args below meth c T' L' 3 33 ∧ Fr n0 L' ∧ ∀ target, Steps p.tables e below (T'.setTop (mkF m 253 Ls [(.int 1)])) target → Steps p.tables e below (T0.setTop (mkF m 206 #[.val (.int p1), .val (.int p2), .val (.int p3), .val (.int 1), .val (.int 0), .val (.int 1), .val (.ref b1), .val (.ref b8), .val (.ref b15), .unset] [])) target := by
  obtain ⟨cq1, kq1, q1a, q1b, q1c⟩ := isOf hZ e0 E_w_PARENT_OVERRIDES
  obtain ⟨_, _, ⟨T1, L1, k1, n1⟩, -, X1, ⟨Lc1, hQ1, l1, y1, z1⟩, st1⟩ := X0.virtualBack hx (y := (⟨"com/example/tributary/tributary/AccessList$InheritanceType", "combine", "(Lcom/example/tributary/tributary/AccessList$Decision;Lcom/example/tributary/tributary/AccessList$Decision;)Lcom/example/tributary/tributary/AccessList$Decision;"⟩ : MethodName)) (z := (⟨"com/example/tributary/tributary/AccessList$InheritanceType", "combine", "(Lcom/example/tributary/tributary/AccessList$Decision;Lcom/example/tributary/tributary/AccessList$Decision;)Lcom/example/tributary/tributary/AccessList$Decision;"⟩ : MethodName)) hown (mvT hZ (hw _ (List.mem_of_getElem? (i := 22) rfl))) (mvT hZ (hw _ (List.mem_of_getElem? (i := 23) rfl))) (notFace_of_selects (args := #[]) (mvT hZ (hw _ (List.mem_of_getElem? (i := 25) rfl)))) (mvT hZ (hw _ (List.mem_of_getElem? (i := 25) rfl))) (mvT hZ (hw _ (List.mem_of_getElem? (i := 24) rfl))) (by decide) (backOf (W := 0) (rm1_w_PARENT_OVERRIDES_w_PERMIT_w_DENY l Z a0 hw [] w_PARENT_OVERRIDES w_PERMIT w_DENY w_INDETERMINATE h0 n0 Z0 F_ordinal_w_PARENT_OVERRIDES E_w_PARENT_OVERRIDES S_INDETERMINATE n_w_INDETERMINATE_w_PERMIT) hZ (hw _ (List.mem_of_getElem? (i := 26) rfl)) (hw _ (List.mem_of_getElem? (i := 4) rfl)) (by decide) (by decide)) q1a q1c (g := (mkF m 220 #[.val (.int p1), .val (.int p2), .val (.int p3), .val (.int 1), .val (.int 0), .val (.int 1), .val (.ref b1), .val (.ref b8), .val (.ref b15), .unset] [(.ref w_DENY), (.ref w_PERMIT), (.ref w_PARENT_OVERRIDES)])) rfl (by rw [hml]; rfl) (Steps.refl _) (argsL := [(.ref w_PERMIT), (.ref w_DENY)]) (rest := []) (lenOf pd__Lcom_example_tributary_tributary_AccessList_Decision_Lcom_example_tributary_tributary_AccessList_Decision__Lcom_example_tributary_tributary_AccessList_Decision_ rfl) rfl (by show 2 * 0 + _ ≤ _; exact Nat.le_of_eq rfl) (hb hby at_220) (fun _ _ => ⟨rfl, e0, (by decide : 3 + 0 ≤ _), (by decide : 33 + 0 ≤ _)⟩)
  dsimp only [Pt.U, Pt.locs, Pt.cells, Pt.slots] at X1 l1 y1 z1 st1 hQ1
  subst l1 y1 z1
  obtain ⟨rfl, N1q, e1⟩ := hQ1
  have N1 := Fr.app N0 N1q
  refine ⟨T1, _, #[.val (.int p1), .val (.int p2), .val (.int p3), .val (.int 1), .val (.int 0), .val (.int 1), .val (.ref b1), .val (.ref b8), .val (.ref b15), .val (.ref w_PERMIT)], X1, N1, fun target kt => ?_⟩
  show Steps p.tables e below (T0.setTop (mkF m 206 #[.val (.int p1), .val (.int p2), .val (.int p3), .val (.int 1), .val (.int 0), .val (.int 1), .val (.ref b1), .val (.ref b8), .val (.ref b15), .unset] [])) _
  refine XS.aload X0.here hx rfl (hb hby at_206) rfl rfl ?_
  show Steps p.tables e below (T0.setTop (mkF m 208 #[.val (.int p1), .val (.int p2), .val (.int p3), .val (.int 1), .val (.int 0), .val (.int 1), .val (.ref b1), .val (.ref b8), .val (.ref b15), .unset] [(.ref b1)])) _
  refine XS.iloadN X0.here hx rfl (hb hby at_208) rfl ?_
  show Steps p.tables e below (T0.setTop (mkF m 209 #[.val (.int p1), .val (.int p2), .val (.int p3), .val (.int 1), .val (.int 0), .val (.int 1), .val (.ref b1), .val (.ref b8), .val (.ref b15), .unset] [(.int 1), (.ref b1)])) _
  refine own_ldR X0 hx hZ e0 V_b1 (j := (1 : Int32)) ⟨by decide, by decide⟩ rfl (g := (mkF m 209 #[.val (.int p1), .val (.int p2), .val (.int p3), .val (.int 1), .val (.int 0), .val (.int 1), .val (.ref b1), .val (.ref b8), .val (.ref b15), .unset] [(.int 1), (.ref b1)])) rfl rfl (hb hby at_209) _ ?_
  show Steps p.tables e below (T0.setTop (mkF m 210 #[.val (.int p1), .val (.int p2), .val (.int p3), .val (.int 1), .val (.int 0), .val (.int 1), .val (.ref b1), .val (.ref b8), .val (.ref b15), .unset] [(.ref w_PARENT_OVERRIDES)])) _
  refine XS.aload X0.here hx rfl (hb hby at_210) rfl rfl ?_
  show Steps p.tables e below (T0.setTop (mkF m 212 #[.val (.int p1), .val (.int p2), .val (.int p3), .val (.int 1), .val (.int 0), .val (.int 1), .val (.ref b1), .val (.ref b8), .val (.ref b15), .unset] [(.ref b8), (.ref w_PARENT_OVERRIDES)])) _
  refine XS.iload X0.here hx rfl (hb hby at_212) rfl ?_
  show Steps p.tables e below (T0.setTop (mkF m 214 #[.val (.int p1), .val (.int p2), .val (.int p3), .val (.int 1), .val (.int 0), .val (.int 1), .val (.ref b1), .val (.ref b8), .val (.ref b15), .unset] [(.int 0), (.ref b8), (.ref w_PARENT_OVERRIDES)])) _
  refine own_ldR X0 hx hZ e0 V_b8 (j := (0 : Int32)) ⟨by decide, by decide⟩ rfl (g := (mkF m 214 #[.val (.int p1), .val (.int p2), .val (.int p3), .val (.int 1), .val (.int 0), .val (.int 1), .val (.ref b1), .val (.ref b8), .val (.ref b15), .unset] [(.int 0), (.ref b8), (.ref w_PARENT_OVERRIDES)])) rfl rfl (hb hby at_214) _ ?_
  show Steps p.tables e below (T0.setTop (mkF m 215 #[.val (.int p1), .val (.int p2), .val (.int p3), .val (.int 1), .val (.int 0), .val (.int 1), .val (.ref b1), .val (.ref b8), .val (.ref b15), .unset] [(.ref w_PERMIT), (.ref w_PARENT_OVERRIDES)])) _
  refine XS.aload X0.here hx rfl (hb hby at_215) rfl rfl ?_
  show Steps p.tables e below (T0.setTop (mkF m 217 #[.val (.int p1), .val (.int p2), .val (.int p3), .val (.int 1), .val (.int 0), .val (.int 1), .val (.ref b1), .val (.ref b8), .val (.ref b15), .unset] [(.ref b8), (.ref w_PERMIT), (.ref w_PARENT_OVERRIDES)])) _
  refine XS.iload X0.here hx rfl (hb hby at_217) rfl ?_
  show Steps p.tables e below (T0.setTop (mkF m 219 #[.val (.int p1), .val (.int p2), .val (.int p3), .val (.int 1), .val (.int 0), .val (.int 1), .val (.ref b1), .val (.ref b8), .val (.ref b15), .unset] [(.int 1), (.ref b8), (.ref w_PERMIT), (.ref w_PARENT_OVERRIDES)])) _
  refine own_ldR X0 hx hZ e0 V_b8 (j := (1 : Int32)) ⟨by decide, by decide⟩ rfl (g := (mkF m 219 #[.val (.int p1), .val (.int p2), .val (.int p3), .val (.int 1), .val (.int 0), .val (.int 1), .val (.ref b1), .val (.ref b8), .val (.ref b15), .unset] [(.int 1), (.ref b8), (.ref w_PERMIT), (.ref w_PARENT_OVERRIDES)])) rfl rfl (hb hby at_219) _ ?_
  show Steps p.tables e below (T0.setTop (mkF m 220 #[.val (.int p1), .val (.int p2), .val (.int p3), .val (.int 1), .val (.int 0), .val (.int 1), .val (.ref b1), .val (.ref b8), .val (.ref b15), .unset] [(.ref w_DENY), (.ref w_PERMIT), (.ref w_PARENT_OVERRIDES)])) _
  refine st1.trans ?_
  show Steps p.tables e below (T1.setTop (mkF m 223 #[.val (.int p1), .val (.int p2), .val (.int p3), .val (.int 1), .val (.int 0), .val (.int 1), .val (.ref b1), .val (.ref b8), .val (.ref b15), .unset] [(.ref w_PERMIT)])) _
  refine XS.astore X1.here hx rfl (hb hby at_223) rfl rfl (l' := #[.val (.int p1), .val (.int p2), .val (.int p3), .val (.int 1), .val (.int 0), .val (.int 1), .val (.ref b1), .val (.ref b8), .val (.ref b15), .val (.ref w_PERMIT)]) rfl ?_
  show Steps p.tables e below (T1.setTop (mkF m 225 #[.val (.int p1), .val (.int p2), .val (.int p3), .val (.int 1), .val (.int 0), .val (.int 1), .val (.ref b1), .val (.ref b8), .val (.ref b15), .val (.ref w_PERMIT)] [])) _
  refine XS.aload X1.here hx rfl (hb hby at_225) rfl rfl ?_
  show Steps p.tables e below (T1.setTop (mkF m 227 #[.val (.int p1), .val (.int p2), .val (.int p3), .val (.int 1), .val (.int 0), .val (.int 1), .val (.ref b1), .val (.ref b8), .val (.ref b15), .val (.ref w_PERMIT)] [(.ref w_PERMIT)])) _
  refine XS.aload X1.here hx rfl (hb hby at_227) rfl rfl ?_
  show Steps p.tables e below (T1.setTop (mkF m 229 #[.val (.int p1), .val (.int p2), .val (.int p3), .val (.int 1), .val (.int 0), .val (.int 1), .val (.ref b1), .val (.ref b8), .val (.ref b15), .val (.ref w_PERMIT)] [(.ref b8), (.ref w_PERMIT)])) _
  refine XS.aload X1.here hx rfl (hb hby at_229) rfl rfl ?_
  show Steps p.tables e below (T1.setTop (mkF m 231 #[.val (.int p1), .val (.int p2), .val (.int p3), .val (.int 1), .val (.int 0), .val (.int 1), .val (.ref b1), .val (.ref b8), .val (.ref b15), .val (.ref w_PERMIT)] [(.ref b15), (.ref b8), (.ref w_PERMIT)])) _
  refine XS.iloadN X1.here hx rfl (hb hby at_231) rfl ?_
  show Steps p.tables e below (T1.setTop (mkF m 232 #[.val (.int p1), .val (.int p2), .val (.int p3), .val (.int 1), .val (.int 0), .val (.int 1), .val (.ref b1), .val (.ref b8), .val (.ref b15), .val (.ref w_PERMIT)] [(.int 1), (.ref b15), (.ref b8), (.ref w_PERMIT)])) _
  refine XS.bipush X1.here hx rfl (hb hby at_232) ?_
  show Steps p.tables e below (T1.setTop (mkF m 234 #[.val (.int p1), .val (.int p2), .val (.int p3), .val (.int 1), .val (.int 0), .val (.int 1), .val (.ref b1), .val (.ref b8), .val (.ref b15), .val (.ref w_PERMIT)] [(.int 9), (.int 1), (.ref b15), (.ref b8), (.ref w_PERMIT)])) _
  refine XS.imul X1.here hx rfl (hb hby at_234) rfl ?_
  show Steps p.tables e below (T1.setTop (mkF m 235 #[.val (.int p1), .val (.int p2), .val (.int p3), .val (.int 1), .val (.int 0), .val (.int 1), .val (.ref b1), .val (.ref b8), .val (.ref b15), .val (.ref w_PERMIT)] [(.int ((1 : Int32) * (9 : Int32))), (.ref b15), (.ref b8), (.ref w_PERMIT)])) _
  rw [(by decide : ((1 : Int32) * (9 : Int32)) = (9 : Int32))]
  show Steps p.tables e below (T1.setTop (mkF m 235 #[.val (.int p1), .val (.int p2), .val (.int p3), .val (.int 1), .val (.int 0), .val (.int 1), .val (.ref b1), .val (.ref b8), .val (.ref b15), .val (.ref w_PERMIT)] [(.int 9), (.ref b15), (.ref b8), (.ref w_PERMIT)])) _
  refine XS.iload X1.here hx rfl (hb hby at_235) rfl ?_
  show Steps p.tables e below (T1.setTop (mkF m 237 #[.val (.int p1), .val (.int p2), .val (.int p3), .val (.int 1), .val (.int 0), .val (.int 1), .val (.ref b1), .val (.ref b8), .val (.ref b15), .val (.ref w_PERMIT)] [(.int 0), (.int 9), (.ref b15), (.ref b8), (.ref w_PERMIT)])) _
  refine XS.iconst X1.here hx rfl (hb hby at_237) ?_
  show Steps p.tables e below (T1.setTop (mkF m 238 #[.val (.int p1), .val (.int p2), .val (.int p3), .val (.int 1), .val (.int 0), .val (.int 1), .val (.ref b1), .val (.ref b8), .val (.ref b15), .val (.ref w_PERMIT)] [(.int 3), (.int 0), (.int 9), (.ref b15), (.ref b8), (.ref w_PERMIT)])) _
  refine XS.imul X1.here hx rfl (hb hby at_238) rfl ?_
  show Steps p.tables e below (T1.setTop (mkF m 239 #[.val (.int p1), .val (.int p2), .val (.int p3), .val (.int 1), .val (.int 0), .val (.int 1), .val (.ref b1), .val (.ref b8), .val (.ref b15), .val (.ref w_PERMIT)] [(.int ((0 : Int32) * (3 : Int32))), (.int 9), (.ref b15), (.ref b8), (.ref w_PERMIT)])) _
  rw [(by decide : ((0 : Int32) * (3 : Int32)) = (0 : Int32))]
  show Steps p.tables e below (T1.setTop (mkF m 239 #[.val (.int p1), .val (.int p2), .val (.int p3), .val (.int 1), .val (.int 0), .val (.int 1), .val (.ref b1), .val (.ref b8), .val (.ref b15), .val (.ref w_PERMIT)] [(.int 0), (.int 9), (.ref b15), (.ref b8), (.ref w_PERMIT)])) _
  refine XS.iadd X1.here hx rfl (hb hby at_239) rfl ?_
  show Steps p.tables e below (T1.setTop (mkF m 240 #[.val (.int p1), .val (.int p2), .val (.int p3), .val (.int 1), .val (.int 0), .val (.int 1), .val (.ref b1), .val (.ref b8), .val (.ref b15), .val (.ref w_PERMIT)] [(.int ((9 : Int32) + (0 : Int32))), (.ref b15), (.ref b8), (.ref w_PERMIT)])) _
  rw [(by decide : ((9 : Int32) + (0 : Int32)) = (9 : Int32))]
  show Steps p.tables e below (T1.setTop (mkF m 240 #[.val (.int p1), .val (.int p2), .val (.int p3), .val (.int 1), .val (.int 0), .val (.int 1), .val (.ref b1), .val (.ref b8), .val (.ref b15), .val (.ref w_PERMIT)] [(.int 9), (.ref b15), (.ref b8), (.ref w_PERMIT)])) _
  refine XS.iload X1.here hx rfl (hb hby at_240) rfl ?_
  show Steps p.tables e below (T1.setTop (mkF m 242 #[.val (.int p1), .val (.int p2), .val (.int p3), .val (.int 1), .val (.int 0), .val (.int 1), .val (.ref b1), .val (.ref b8), .val (.ref b15), .val (.ref w_PERMIT)] [(.int 1), (.int 9), (.ref b15), (.ref b8), (.ref w_PERMIT)])) _
  refine XS.iadd X1.here hx rfl (hb hby at_242) rfl ?_
  show Steps p.tables e below (T1.setTop (mkF m 243 #[.val (.int p1), .val (.int p2), .val (.int p3), .val (.int 1), .val (.int 0), .val (.int 1), .val (.ref b1), .val (.ref b8), .val (.ref b15), .val (.ref w_PERMIT)] [(.int ((9 : Int32) + (1 : Int32))), (.ref b15), (.ref b8), (.ref w_PERMIT)])) _
  rw [(by decide : ((9 : Int32) + (1 : Int32)) = (10 : Int32))]
  show Steps p.tables e below (T1.setTop (mkF m 243 #[.val (.int p1), .val (.int p2), .val (.int p3), .val (.int 1), .val (.int 0), .val (.int 1), .val (.ref b1), .val (.ref b8), .val (.ref b15), .val (.ref w_PERMIT)] [(.int 10), (.ref b15), (.ref b8), (.ref w_PERMIT)])) _
  refine own_ldI X1 hx hZ e1 V_b15 (j := (10 : Int32)) ⟨by decide, by decide⟩ rfl (g := (mkF m 243 #[.val (.int p1), .val (.int p2), .val (.int p3), .val (.int 1), .val (.int 0), .val (.int 1), .val (.ref b1), .val (.ref b8), .val (.ref b15), .val (.ref w_PERMIT)] [(.int 10), (.ref b15), (.ref b8), (.ref w_PERMIT)])) rfl rfl (hb hby at_243) _ ?_
  show Steps p.tables e below (T1.setTop (mkF m 244 #[.val (.int p1), .val (.int p2), .val (.int p3), .val (.int 1), .val (.int 0), .val (.int 1), .val (.ref b1), .val (.ref b8), .val (.ref b15), .val (.ref w_PERMIT)] [(.int 0), (.ref b8), (.ref w_PERMIT)])) _
  refine own_ldR X1 hx hZ e1 V_b8 (j := (0 : Int32)) ⟨by decide, by decide⟩ rfl (g := (mkF m 244 #[.val (.int p1), .val (.int p2), .val (.int p3), .val (.int 1), .val (.int 0), .val (.int 1), .val (.ref b1), .val (.ref b8), .val (.ref b15), .val (.ref w_PERMIT)] [(.int 0), (.ref b8), (.ref w_PERMIT)])) rfl rfl (hb hby at_244) _ ?_
  show Steps p.tables e below (T1.setTop (mkF m 245 #[.val (.int p1), .val (.int p2), .val (.int p3), .val (.int 1), .val (.int 0), .val (.int 1), .val (.ref b1), .val (.ref b8), .val (.ref b15), .val (.ref w_PERMIT)] [(.ref w_PERMIT), (.ref w_PERMIT)])) _
  refine Jvm.RoadKit.acmp (g := (mkF m 245 #[.val (.int p1), .val (.int p2), .val (.int p3), .val (.int 1), .val (.int 0), .val (.int 1), .val (.ref b1), .val (.ref b8), .val (.ref b15), .val (.ref w_PERMIT)] [(.ref w_PERMIT), (.ref w_PERMIT)])) X1 hx rfl rfl rfl (pc0 := 245) (pc' := 248) (same := true) rfl (hb hby at_245) rfl (decide_eq_true rfl) (by decide) (by decide) ?_
  show Steps p.tables e below (T1.setTop (mkF m 248 #[.val (.int p1), .val (.int p2), .val (.int p3), .val (.int 1), .val (.int 0), .val (.int 1), .val (.ref b1), .val (.ref b8), .val (.ref b15), .val (.ref w_PERMIT)] [])) _
  refine XS.iconst X1.here hx rfl (hb hby at_248) ?_
  show Steps p.tables e below (T1.setTop (mkF m 249 #[.val (.int p1), .val (.int p2), .val (.int p3), .val (.int 1), .val (.int 0), .val (.int 1), .val (.ref b1), .val (.ref b8), .val (.ref b15), .val (.ref w_PERMIT)] [(.int 1)])) _
  refine XS.goto X1.here hx rfl (pc0 := 249) (pc' := 253) rfl (hb hby at_249) (by decide) (by decide) ?_
  show Steps p.tables e below (T1.setTop (mkF m 253 #[.val (.int p1), .val (.int p2), .val (.int p3), .val (.int 1), .val (.int 0), .val (.int 1), .val (.ref b1), .val (.ref b8), .val (.ref b15), .val (.ref w_PERMIT)] [(.int 1)])) _
  exact kt
def Q1_w_PARENT_OVERRIDES_w_PERMIT_w_INDETERMINATE (Z : State) (w_PARENT_OVERRIDES : Addr) (w_PERMIT : Addr) (w_INDETERMINATE : Addr) (h0 : Heap) (n0 : Nat) (v : Option Value) (h : Heap) (L : List Loc) : Prop := v = some (.ref w_PERMIT) ∧ Fr n0 L ∧ h = h0
set_option maxRecDepth 65536 in
set_option maxHeartbeats 40000000 in
theorem rm1_w_PARENT_OVERRIDES_w_PERMIT_w_INDETERMINATE (l : Launch) (Z : State) (a0 : Array Value) (hw : ∀ d ∈ tables_1, d.before a0 Z = true) (ws : List Jvm.Cond) (w_PARENT_OVERRIDES : Addr) (w_PERMIT : Addr) (w_INDETERMINATE : Addr) (h0 : Heap) (n0 : Nat) (Z0 : n0 ≤ h0.size) (F_ordinal_w_PARENT_OVERRIDES : Fld Z h0 w_PARENT_OVERRIDES "java/lang/Enum" "ordinal" "I" (.int 1)) (E_w_PARENT_OVERRIDES : Exa Z h0 w_PARENT_OVERRIDES "com/example/tributary/tributary/AccessList$InheritanceType") (S_INDETERMINATE : Sta Z h0 "com/example/tributary/tributary/AccessList$Decision" "INDETERMINATE" "Lcom/example/tributary/tributary/AccessList$Decision;" (.ref w_INDETERMINATE)) (n_w_INDETERMINATE_w_PERMIT : ¬ (w_INDETERMINATE = w_PERMIT)) :
    MetFree l (⟨"com/example/tributary/tributary/AccessList$InheritanceType", "combine", "(Lcom/example/tributary/tributary/AccessList$Decision;Lcom/example/tributary/tributary/AccessList$Decision;)Lcom/example/tributary/tributary/AccessList$Decision;"⟩ : MethodName) (head1 (Jvm.Cond.code (⟨"com/example/tributary/tributary/AccessList$InheritanceType", "combine", "(Lcom/example/tributary/tributary/AccessList$Decision;Lcom/example/tributary/tributary/AccessList$Decision;)Lcom/example/tributary/tributary/AccessList$Decision;"⟩ : MethodName) prog_6_method_4_code 3 (some (.object "com/example/tributary/tributary/AccessList$Decision")) :: ws) ({ frames := 1, cells := 0, slots := 0, locals := 12 } : Room)) (fun a U => a = #[(.ref w_PARENT_OVERRIDES), (.ref w_PERMIT), (.ref w_INDETERMINATE)] ∧ Z.Warmed39 U.vm ∧ U.heap = h0) (fun _ _ _ _ _ => True) (fun _ U o U' => ∃ v L, o = .returned v ∧ Q1_w_PARENT_OVERRIDES_w_PERMIT_w_INDETERMINATE Z w_PARENT_OVERRIDES w_PERMIT w_INDETERMINATE h0 n0 v U'.heap L ∧ FrameEnd U o U' L ({ frames := 1, cells := 0, slots := 0, locals := 12 } : Room).cells ({ frames := 1, cells := 0, slots := 0, locals := 12 } : Room).slots) := by
  refine MetFree.of_bodySF (plainFor_of_name pn_1) hisR ?_
  intro p e s m args below meth c s₁ Bd hml0 hP hK
  obtain ⟨rfl, hZ, hh⟩ := hP
  have hx := Bd.exec
  have hby := Bd.bytes
  have hml : c.maxLocals = 3 := hml0
  have hown : s.vm.findClass "com/example/tributary/tributary/AccessList$InheritanceType" = some m.cls := findClass_of_methodNamed Bd.named
  have hnm := (name_of_methodNamed Bd.named Bd.method).1
  have X0 : Stand p l e ({ frames := 1, cells := 0, slots := 0, locals := 12 } : Room) s m #[(.ref w_PARENT_OVERRIDES), (.ref w_PERMIT), (.ref w_INDETERMINATE)] below meth c s₁ [] 0 0 := Stand.of_body Bd
  have e0 : s₁.heap = h0 := by rw [← hh, Bd.state]; rfl
  have N0 := Fr.nil n0
  have pre0 : ∀ t, Steps p.tables e below (s₁.setTop (mkF m 0 #[.val (.ref w_PARENT_OVERRIDES), .val (.ref w_PERMIT), .val (.ref w_INDETERMINATE)] [])) t → Steps p.tables e below (s₁.setTop (entryFrame m #[(.ref w_PARENT_OVERRIDES), (.ref w_PERMIT), (.ref w_INDETERMINATE)] 3)) t := fun t k => castTop (by first | (simp [entryFrame, mkF, argsToLocals, Value.category]; done) | rfl) k
  obtain ⟨cq1, kq1, q1a, q1b, q1c⟩ := isOf hZ e0 E_w_PARENT_OVERRIDES
  obtain ⟨_, _, ⟨T1, L1, k1, n1⟩, -, X1, ⟨Lc1, hQ1, l1, y1, z1⟩, st1⟩ := X0.virtualBackUp hx (x := (⟨"com/example/tributary/tributary/AccessList$InheritanceType", "ordinal", "()I"⟩ : MethodName)) (y := (⟨"java/lang/Enum", "ordinal", "()I"⟩ : MethodName)) (owner := "java/lang/Enum") hown (mvT hZ (hw _ (List.mem_of_getElem? (i := 27) rfl))) (mvT hZ (hw _ (List.mem_of_getElem? (i := 28) rfl))) (mvT hZ (hw _ (List.mem_of_getElem? (i := 29) rfl))) (by decide) (mvT hZ (hw _ (List.mem_of_getElem? (i := 31) rfl))) (mvT hZ (hw _ (List.mem_of_getElem? (i := 30) rfl))) (backOf (W := 0) (rm2_w_PARENT_OVERRIDES l Z a0 hw [] w_PARENT_OVERRIDES h0 n0 Z0 F_ordinal_w_PARENT_OVERRIDES) hZ (hw _ (List.mem_of_getElem? (i := 33) rfl)) (hw _ (List.mem_of_getElem? (i := 32) rfl)) (by decide) (by decide)) q1a q1c (g := (mkF m 1 #[.val (.ref w_PARENT_OVERRIDES), .val (.ref w_PERMIT), .val (.ref w_INDETERMINATE)] [(.ref w_PARENT_OVERRIDES)])) rfl (by rw [hml]; rfl) (Steps.refl _) (argsL := []) (rest := []) (lenOf pd___I rfl) rfl (by show 2 * 0 + _ ≤ _; exact Nat.le_of_eq rfl) (hb hby d1_1) (fun _ _ => ⟨rfl, e0, (by decide : 0 + 0 ≤ _), (by decide : 0 + 0 ≤ _)⟩)
  dsimp only [Pt.U, Pt.locs, Pt.cells, Pt.slots] at X1 l1 y1 z1 st1 hQ1
  subst l1 y1 z1
  obtain ⟨rfl, N1q, e1⟩ := hQ1
  have N1 := Fr.app N0 N1q
  obtain ⟨T2, X2, e2, st2⟩ := getS2 X1 hx hZ hown (host := "") (Or.inl (hw _ (List.mem_of_getElem? (i := 36) rfl))) Via.refl e1 S_INDETERMINATE (g := (mkF m 62 #[.val (.ref w_PARENT_OVERRIDES), .val (.ref w_PERMIT), .val (.ref w_INDETERMINATE)] [(.ref w_PERMIT)])) rfl (hb hby d1_62)
  obtain ⟨fs, hr, hrun, hended, hW, hsame⟩ := X2.leave (v := some (.ref w_PERMIT)) (fun h => by rw [Bd.returns] at h; cases h)
  refine ⟨_, _, pre0 _ ?_, hrun, hended, _, _, rfl, ?_, ⟨_, rfl⟩, hW, hsame.mono (by decide) (by decide)⟩
  · show Steps p.tables e below (s₁.setTop (mkF m 0 #[.val (.ref w_PARENT_OVERRIDES), .val (.ref w_PERMIT), .val (.ref w_INDETERMINATE)] [])) _
    refine XS.aloadN X0.here hx rfl (hb hby d1_0) rfl rfl ?_
    show Steps p.tables e below (s₁.setTop (mkF m 1 #[.val (.ref w_PARENT_OVERRIDES), .val (.ref w_PERMIT), .val (.ref w_INDETERMINATE)] [(.ref w_PARENT_OVERRIDES)])) _
    refine st1.trans ?_
    show Steps p.tables e below (T1.setTop (mkF m 4 #[.val (.ref w_PARENT_OVERRIDES), .val (.ref w_PERMIT), .val (.ref w_INDETERMINATE)] [(.int 1)])) _
    refine XS.tswIn X1.here hx rfl (pc0 := 4) (pc' := 61) rfl (hb hby d1_4) rfl (by decide) (o := 57) (by decide) (by decide) (by decide) ?_
    show Steps p.tables e below (T1.setTop (mkF m 61 #[.val (.ref w_PARENT_OVERRIDES), .val (.ref w_PERMIT), .val (.ref w_INDETERMINATE)] [])) _
    refine XS.aloadN X1.here hx rfl (hb hby d1_61) rfl rfl ?_
    show Steps p.tables e below (T1.setTop (mkF m 62 #[.val (.ref w_PARENT_OVERRIDES), .val (.ref w_PERMIT), .val (.ref w_INDETERMINATE)] [(.ref w_PERMIT)])) _
    refine st2 _ ?_
    show Steps p.tables e below (T2.setTop (mkF m 65 #[.val (.ref w_PARENT_OVERRIDES), .val (.ref w_PERMIT), .val (.ref w_INDETERMINATE)] [(.ref w_INDETERMINATE), (.ref w_PERMIT)])) _
    refine Jvm.RoadKit.acmp (g := (mkF m 65 #[.val (.ref w_PARENT_OVERRIDES), .val (.ref w_PERMIT), .val (.ref w_INDETERMINATE)] [(.ref w_INDETERMINATE), (.ref w_PERMIT)])) X2 hx rfl rfl rfl (pc0 := 65) (pc' := 72) (same := false) rfl (hb hby d1_65) rfl (decide_eq_false fun q => (Ne.symm n_w_INDETERMINATE_w_PERMIT) (Value.ref.inj q)) (by decide) (by decide) ?_
    show Steps p.tables e below (T2.setTop (mkF m 72 #[.val (.ref w_PARENT_OVERRIDES), .val (.ref w_PERMIT), .val (.ref w_INDETERMINATE)] [])) _
    refine XS.aloadN X2.here hx rfl (hb hby d1_72) rfl rfl ?_
    show Steps p.tables e below (T2.setTop (mkF m 73 #[.val (.ref w_PARENT_OVERRIDES), .val (.ref w_PERMIT), .val (.ref w_INDETERMINATE)] [(.ref w_PERMIT)])) _
    refine XS.goto X2.here hx rfl (pc0 := 73) (pc' := 112) rfl (hb hby d1_73) (by decide) (by decide) ?_
    show Steps p.tables e below (T2.setTop (mkF m 112 #[.val (.ref w_PARENT_OVERRIDES), .val (.ref w_PERMIT), .val (.ref w_INDETERMINATE)] [(.ref w_PERMIT)])) _
    jvm_step X2.here [X2.here.top, hx, (hb hby d1_112), X2.method', Bd.returns, Value.isRef, FieldType.isReference]
    first | (intro acts; rw [hr _ acts rfl rfl rfl]) | rw [hr _ _ rfl rfl rfl]
    exact Steps.refl _
  · show Q1_w_PARENT_OVERRIDES_w_PERMIT_w_INDETERMINATE Z w_PARENT_OVERRIDES w_PERMIT w_INDETERMINATE h0 n0 _ T2.heap _
    rw [e2]
    exact ⟨rfl, N1, rfl⟩
set_option maxRecDepth 65536 in
set_option maxHeartbeats 40000000 in
theorem pc0_k102 {p : Program} {l : Launch} {e : Env} {s : State} {m : MethodId} {args : Array Value} {below : List Frame} {meth : Method} {c : Code} {T0 : State} {locs : List Loc} {Z : State} {a0 : Array Value} {h0 : Heap} {n0 : Nat} (p1 : Int32) (p2 : Int32) (p3 : Int32) (b1 : Addr) (b8 : Addr) (b15 : Addr) (k1 : ClassId) (w_CHILD_OVERRIDES : Addr) (w_PARENT_OVERRIDES : Addr) (w_AND_BOTH_PERMIT : Addr) (k8 : ClassId) (w_PERMIT : Addr) (w_DENY : Addr) (w_INDETERMINATE : Addr) (k15 : ClassId)
    (X0 : Stand p l e room_1 s m args below meth c T0 locs 3 33) (hx : p.tables.exec = Jvm.exec) (hZ : Z.Warmed39 s.vm) (hw : ∀ d ∈ tables_1, d.before a0 Z = true) (hby : c.code = code) (hml : c.maxLocals = 10) (hown : s.vm.findClass "com/example/tributary/tributary/InheritanceTypeCombinePinLaw" = some m.cls) (e0 : T0.heap = h0) (Z0 : n0 ≤ h0.size) (N0 : Fr n0 locs) (V_b1 : Arv Z h0 b1 k1 (.object "com/example/tributary/tributary/AccessList$InheritanceType") (3 : Int32) [(.ref w_CHILD_OVERRIDES), (.ref w_PARENT_OVERRIDES), (.ref w_AND_BOTH_PERMIT)] .null) (V_b8 : Arv Z h0 b8 k8 (.object "com/example/tributary/tributary/AccessList$Decision") (3 : Int32) [(.ref w_PERMIT), (.ref w_DENY), (.ref w_INDETERMINATE)] .null) (F_ordinal_w_PARENT_OVERRIDES : Fld Z h0 w_PARENT_OVERRIDES "java/lang/Enum" "ordinal" "I" (.int 1)) (E_w_PARENT_OVERRIDES : Exa Z h0 w_PARENT_OVERRIDES "com/example/tributary/tributary/AccessList$InheritanceType") (S_INDETERMINATE : Sta Z h0 "com/example/tributary/tributary/AccessList$Decision" "INDETERMINATE" "Lcom/example/tributary/tributary/AccessList$Decision;" (.ref w_INDETERMINATE)) (n_w_INDETERMINATE_w_PERMIT : ¬ (w_INDETERMINATE = w_PERMIT)) (V_b15 : Arv Z h0 b15 k15 .int (27 : Int32) [(.int 0), (.int 1), (.int 0), (.int 0), (.int 1), (.int 1), (.int 0), (.int 1), (.int 2), (.int 0), (.int 0), (.int 0), (.int 1), (.int 1), (.int 1), (.int 0), (.int 1), (.int 2), (.int 0), (.int 1), (.int 1), (.int 1), (.int 1), (.int 1), (.int 1), (.int 1), (.int 1)] (.int (0 : Int32))) :
    ∃ (T' : State) (L' : List Loc) (Ls : Array Slot), Stand p l e room_1 s m args below meth c T' L' 3 33 ∧ Fr n0 L' ∧ ∀ target, Steps p.tables e below (T'.setTop (mkF m 253 Ls [(.int 1)])) target → Steps p.tables e below (T0.setTop (mkF m 206 #[.val (.int p1), .val (.int p2), .val (.int p3), .val (.int 1), .val (.int 0), .val (.int 2), .val (.ref b1), .val (.ref b8), .val (.ref b15), .unset] [])) target := by
  obtain ⟨cq1, kq1, q1a, q1b, q1c⟩ := isOf hZ e0 E_w_PARENT_OVERRIDES
  obtain ⟨_, _, ⟨T1, L1, k1, n1⟩, -, X1, ⟨Lc1, hQ1, l1, y1, z1⟩, st1⟩ := X0.virtualBack hx (y := (⟨"com/example/tributary/tributary/AccessList$InheritanceType", "combine", "(Lcom/example/tributary/tributary/AccessList$Decision;Lcom/example/tributary/tributary/AccessList$Decision;)Lcom/example/tributary/tributary/AccessList$Decision;"⟩ : MethodName)) (z := (⟨"com/example/tributary/tributary/AccessList$InheritanceType", "combine", "(Lcom/example/tributary/tributary/AccessList$Decision;Lcom/example/tributary/tributary/AccessList$Decision;)Lcom/example/tributary/tributary/AccessList$Decision;"⟩ : MethodName)) hown (mvT hZ (hw _ (List.mem_of_getElem? (i := 22) rfl))) (mvT hZ (hw _ (List.mem_of_getElem? (i := 23) rfl))) (notFace_of_selects (args := #[]) (mvT hZ (hw _ (List.mem_of_getElem? (i := 25) rfl)))) (mvT hZ (hw _ (List.mem_of_getElem? (i := 25) rfl))) (mvT hZ (hw _ (List.mem_of_getElem? (i := 24) rfl))) (by decide) (backOf (W := 0) (rm1_w_PARENT_OVERRIDES_w_PERMIT_w_INDETERMINATE l Z a0 hw [] w_PARENT_OVERRIDES w_PERMIT w_INDETERMINATE h0 n0 Z0 F_ordinal_w_PARENT_OVERRIDES E_w_PARENT_OVERRIDES S_INDETERMINATE n_w_INDETERMINATE_w_PERMIT) hZ (hw _ (List.mem_of_getElem? (i := 26) rfl)) (hw _ (List.mem_of_getElem? (i := 4) rfl)) (by decide) (by decide)) q1a q1c (g := (mkF m 220 #[.val (.int p1), .val (.int p2), .val (.int p3), .val (.int 1), .val (.int 0), .val (.int 2), .val (.ref b1), .val (.ref b8), .val (.ref b15), .unset] [(.ref w_INDETERMINATE), (.ref w_PERMIT), (.ref w_PARENT_OVERRIDES)])) rfl (by rw [hml]; rfl) (Steps.refl _) (argsL := [(.ref w_PERMIT), (.ref w_INDETERMINATE)]) (rest := []) (lenOf pd__Lcom_example_tributary_tributary_AccessList_Decision_Lcom_example_tributary_tributary_AccessList_Decision__Lcom_example_tributary_tributary_AccessList_Decision_ rfl) rfl (by show 2 * 0 + _ ≤ _; exact Nat.le_of_eq rfl) (hb hby at_220) (fun _ _ => ⟨rfl, e0, (by decide : 3 + 0 ≤ _), (by decide : 33 + 0 ≤ _)⟩)
  dsimp only [Pt.U, Pt.locs, Pt.cells, Pt.slots] at X1 l1 y1 z1 st1 hQ1
  subst l1 y1 z1
  obtain ⟨rfl, N1q, e1⟩ := hQ1
  have N1 := Fr.app N0 N1q
  refine ⟨T1, _, #[.val (.int p1), .val (.int p2), .val (.int p3), .val (.int 1), .val (.int 0), .val (.int 2), .val (.ref b1), .val (.ref b8), .val (.ref b15), .val (.ref w_PERMIT)], X1, N1, fun target kt => ?_⟩
  show Steps p.tables e below (T0.setTop (mkF m 206 #[.val (.int p1), .val (.int p2), .val (.int p3), .val (.int 1), .val (.int 0), .val (.int 2), .val (.ref b1), .val (.ref b8), .val (.ref b15), .unset] [])) _
  refine XS.aload X0.here hx rfl (hb hby at_206) rfl rfl ?_
  show Steps p.tables e below (T0.setTop (mkF m 208 #[.val (.int p1), .val (.int p2), .val (.int p3), .val (.int 1), .val (.int 0), .val (.int 2), .val (.ref b1), .val (.ref b8), .val (.ref b15), .unset] [(.ref b1)])) _
  refine XS.iloadN X0.here hx rfl (hb hby at_208) rfl ?_
  show Steps p.tables e below (T0.setTop (mkF m 209 #[.val (.int p1), .val (.int p2), .val (.int p3), .val (.int 1), .val (.int 0), .val (.int 2), .val (.ref b1), .val (.ref b8), .val (.ref b15), .unset] [(.int 1), (.ref b1)])) _
  refine own_ldR X0 hx hZ e0 V_b1 (j := (1 : Int32)) ⟨by decide, by decide⟩ rfl (g := (mkF m 209 #[.val (.int p1), .val (.int p2), .val (.int p3), .val (.int 1), .val (.int 0), .val (.int 2), .val (.ref b1), .val (.ref b8), .val (.ref b15), .unset] [(.int 1), (.ref b1)])) rfl rfl (hb hby at_209) _ ?_
  show Steps p.tables e below (T0.setTop (mkF m 210 #[.val (.int p1), .val (.int p2), .val (.int p3), .val (.int 1), .val (.int 0), .val (.int 2), .val (.ref b1), .val (.ref b8), .val (.ref b15), .unset] [(.ref w_PARENT_OVERRIDES)])) _
  refine XS.aload X0.here hx rfl (hb hby at_210) rfl rfl ?_
  show Steps p.tables e below (T0.setTop (mkF m 212 #[.val (.int p1), .val (.int p2), .val (.int p3), .val (.int 1), .val (.int 0), .val (.int 2), .val (.ref b1), .val (.ref b8), .val (.ref b15), .unset] [(.ref b8), (.ref w_PARENT_OVERRIDES)])) _
  refine XS.iload X0.here hx rfl (hb hby at_212) rfl ?_
  show Steps p.tables e below (T0.setTop (mkF m 214 #[.val (.int p1), .val (.int p2), .val (.int p3), .val (.int 1), .val (.int 0), .val (.int 2), .val (.ref b1), .val (.ref b8), .val (.ref b15), .unset] [(.int 0), (.ref b8), (.ref w_PARENT_OVERRIDES)])) _
  refine own_ldR X0 hx hZ e0 V_b8 (j := (0 : Int32)) ⟨by decide, by decide⟩ rfl (g := (mkF m 214 #[.val (.int p1), .val (.int p2), .val (.int p3), .val (.int 1), .val (.int 0), .val (.int 2), .val (.ref b1), .val (.ref b8), .val (.ref b15), .unset] [(.int 0), (.ref b8), (.ref w_PARENT_OVERRIDES)])) rfl rfl (hb hby at_214) _ ?_
  show Steps p.tables e below (T0.setTop (mkF m 215 #[.val (.int p1), .val (.int p2), .val (.int p3), .val (.int 1), .val (.int 0), .val (.int 2), .val (.ref b1), .val (.ref b8), .val (.ref b15), .unset] [(.ref w_PERMIT), (.ref w_PARENT_OVERRIDES)])) _
  refine XS.aload X0.here hx rfl (hb hby at_215) rfl rfl ?_
  show Steps p.tables e below (T0.setTop (mkF m 217 #[.val (.int p1), .val (.int p2), .val (.int p3), .val (.int 1), .val (.int 0), .val (.int 2), .val (.ref b1), .val (.ref b8), .val (.ref b15), .unset] [(.ref b8), (.ref w_PERMIT), (.ref w_PARENT_OVERRIDES)])) _
  refine XS.iload X0.here hx rfl (hb hby at_217) rfl ?_
  show Steps p.tables e below (T0.setTop (mkF m 219 #[.val (.int p1), .val (.int p2), .val (.int p3), .val (.int 1), .val (.int 0), .val (.int 2), .val (.ref b1), .val (.ref b8), .val (.ref b15), .unset] [(.int 2), (.ref b8), (.ref w_PERMIT), (.ref w_PARENT_OVERRIDES)])) _
  refine own_ldR X0 hx hZ e0 V_b8 (j := (2 : Int32)) ⟨by decide, by decide⟩ rfl (g := (mkF m 219 #[.val (.int p1), .val (.int p2), .val (.int p3), .val (.int 1), .val (.int 0), .val (.int 2), .val (.ref b1), .val (.ref b8), .val (.ref b15), .unset] [(.int 2), (.ref b8), (.ref w_PERMIT), (.ref w_PARENT_OVERRIDES)])) rfl rfl (hb hby at_219) _ ?_
  show Steps p.tables e below (T0.setTop (mkF m 220 #[.val (.int p1), .val (.int p2), .val (.int p3), .val (.int 1), .val (.int 0), .val (.int 2), .val (.ref b1), .val (.ref b8), .val (.ref b15), .unset] [(.ref w_INDETERMINATE), (.ref w_PERMIT), (.ref w_PARENT_OVERRIDES)])) _
  refine st1.trans ?_
  show Steps p.tables e below (T1.setTop (mkF m 223 #[.val (.int p1), .val (.int p2), .val (.int p3), .val (.int 1), .val (.int 0), .val (.int 2), .val (.ref b1), .val (.ref b8), .val (.ref b15), .unset] [(.ref w_PERMIT)])) _
  refine XS.astore X1.here hx rfl (hb hby at_223) rfl rfl (l' := #[.val (.int p1), .val (.int p2), .val (.int p3), .val (.int 1), .val (.int 0), .val (.int 2), .val (.ref b1), .val (.ref b8), .val (.ref b15), .val (.ref w_PERMIT)]) rfl ?_
  show Steps p.tables e below (T1.setTop (mkF m 225 #[.val (.int p1), .val (.int p2), .val (.int p3), .val (.int 1), .val (.int 0), .val (.int 2), .val (.ref b1), .val (.ref b8), .val (.ref b15), .val (.ref w_PERMIT)] [])) _
  refine XS.aload X1.here hx rfl (hb hby at_225) rfl rfl ?_
  show Steps p.tables e below (T1.setTop (mkF m 227 #[.val (.int p1), .val (.int p2), .val (.int p3), .val (.int 1), .val (.int 0), .val (.int 2), .val (.ref b1), .val (.ref b8), .val (.ref b15), .val (.ref w_PERMIT)] [(.ref w_PERMIT)])) _
  refine XS.aload X1.here hx rfl (hb hby at_227) rfl rfl ?_
  show Steps p.tables e below (T1.setTop (mkF m 229 #[.val (.int p1), .val (.int p2), .val (.int p3), .val (.int 1), .val (.int 0), .val (.int 2), .val (.ref b1), .val (.ref b8), .val (.ref b15), .val (.ref w_PERMIT)] [(.ref b8), (.ref w_PERMIT)])) _
  refine XS.aload X1.here hx rfl (hb hby at_229) rfl rfl ?_
  show Steps p.tables e below (T1.setTop (mkF m 231 #[.val (.int p1), .val (.int p2), .val (.int p3), .val (.int 1), .val (.int 0), .val (.int 2), .val (.ref b1), .val (.ref b8), .val (.ref b15), .val (.ref w_PERMIT)] [(.ref b15), (.ref b8), (.ref w_PERMIT)])) _
  refine XS.iloadN X1.here hx rfl (hb hby at_231) rfl ?_
  show Steps p.tables e below (T1.setTop (mkF m 232 #[.val (.int p1), .val (.int p2), .val (.int p3), .val (.int 1), .val (.int 0), .val (.int 2), .val (.ref b1), .val (.ref b8), .val (.ref b15), .val (.ref w_PERMIT)] [(.int 1), (.ref b15), (.ref b8), (.ref w_PERMIT)])) _
  refine XS.bipush X1.here hx rfl (hb hby at_232) ?_
  show Steps p.tables e below (T1.setTop (mkF m 234 #[.val (.int p1), .val (.int p2), .val (.int p3), .val (.int 1), .val (.int 0), .val (.int 2), .val (.ref b1), .val (.ref b8), .val (.ref b15), .val (.ref w_PERMIT)] [(.int 9), (.int 1), (.ref b15), (.ref b8), (.ref w_PERMIT)])) _
  refine XS.imul X1.here hx rfl (hb hby at_234) rfl ?_
  show Steps p.tables e below (T1.setTop (mkF m 235 #[.val (.int p1), .val (.int p2), .val (.int p3), .val (.int 1), .val (.int 0), .val (.int 2), .val (.ref b1), .val (.ref b8), .val (.ref b15), .val (.ref w_PERMIT)] [(.int ((1 : Int32) * (9 : Int32))), (.ref b15), (.ref b8), (.ref w_PERMIT)])) _
  rw [(by decide : ((1 : Int32) * (9 : Int32)) = (9 : Int32))]
  show Steps p.tables e below (T1.setTop (mkF m 235 #[.val (.int p1), .val (.int p2), .val (.int p3), .val (.int 1), .val (.int 0), .val (.int 2), .val (.ref b1), .val (.ref b8), .val (.ref b15), .val (.ref w_PERMIT)] [(.int 9), (.ref b15), (.ref b8), (.ref w_PERMIT)])) _
  refine XS.iload X1.here hx rfl (hb hby at_235) rfl ?_
  show Steps p.tables e below (T1.setTop (mkF m 237 #[.val (.int p1), .val (.int p2), .val (.int p3), .val (.int 1), .val (.int 0), .val (.int 2), .val (.ref b1), .val (.ref b8), .val (.ref b15), .val (.ref w_PERMIT)] [(.int 0), (.int 9), (.ref b15), (.ref b8), (.ref w_PERMIT)])) _
  refine XS.iconst X1.here hx rfl (hb hby at_237) ?_
  show Steps p.tables e below (T1.setTop (mkF m 238 #[.val (.int p1), .val (.int p2), .val (.int p3), .val (.int 1), .val (.int 0), .val (.int 2), .val (.ref b1), .val (.ref b8), .val (.ref b15), .val (.ref w_PERMIT)] [(.int 3), (.int 0), (.int 9), (.ref b15), (.ref b8), (.ref w_PERMIT)])) _
  refine XS.imul X1.here hx rfl (hb hby at_238) rfl ?_
  show Steps p.tables e below (T1.setTop (mkF m 239 #[.val (.int p1), .val (.int p2), .val (.int p3), .val (.int 1), .val (.int 0), .val (.int 2), .val (.ref b1), .val (.ref b8), .val (.ref b15), .val (.ref w_PERMIT)] [(.int ((0 : Int32) * (3 : Int32))), (.int 9), (.ref b15), (.ref b8), (.ref w_PERMIT)])) _
  rw [(by decide : ((0 : Int32) * (3 : Int32)) = (0 : Int32))]
  show Steps p.tables e below (T1.setTop (mkF m 239 #[.val (.int p1), .val (.int p2), .val (.int p3), .val (.int 1), .val (.int 0), .val (.int 2), .val (.ref b1), .val (.ref b8), .val (.ref b15), .val (.ref w_PERMIT)] [(.int 0), (.int 9), (.ref b15), (.ref b8), (.ref w_PERMIT)])) _
  refine XS.iadd X1.here hx rfl (hb hby at_239) rfl ?_
  show Steps p.tables e below (T1.setTop (mkF m 240 #[.val (.int p1), .val (.int p2), .val (.int p3), .val (.int 1), .val (.int 0), .val (.int 2), .val (.ref b1), .val (.ref b8), .val (.ref b15), .val (.ref w_PERMIT)] [(.int ((9 : Int32) + (0 : Int32))), (.ref b15), (.ref b8), (.ref w_PERMIT)])) _
  rw [(by decide : ((9 : Int32) + (0 : Int32)) = (9 : Int32))]
  show Steps p.tables e below (T1.setTop (mkF m 240 #[.val (.int p1), .val (.int p2), .val (.int p3), .val (.int 1), .val (.int 0), .val (.int 2), .val (.ref b1), .val (.ref b8), .val (.ref b15), .val (.ref w_PERMIT)] [(.int 9), (.ref b15), (.ref b8), (.ref w_PERMIT)])) _
  refine XS.iload X1.here hx rfl (hb hby at_240) rfl ?_
  show Steps p.tables e below (T1.setTop (mkF m 242 #[.val (.int p1), .val (.int p2), .val (.int p3), .val (.int 1), .val (.int 0), .val (.int 2), .val (.ref b1), .val (.ref b8), .val (.ref b15), .val (.ref w_PERMIT)] [(.int 2), (.int 9), (.ref b15), (.ref b8), (.ref w_PERMIT)])) _
  refine XS.iadd X1.here hx rfl (hb hby at_242) rfl ?_
  show Steps p.tables e below (T1.setTop (mkF m 243 #[.val (.int p1), .val (.int p2), .val (.int p3), .val (.int 1), .val (.int 0), .val (.int 2), .val (.ref b1), .val (.ref b8), .val (.ref b15), .val (.ref w_PERMIT)] [(.int ((9 : Int32) + (2 : Int32))), (.ref b15), (.ref b8), (.ref w_PERMIT)])) _
  rw [(by decide : ((9 : Int32) + (2 : Int32)) = (11 : Int32))]
  show Steps p.tables e below (T1.setTop (mkF m 243 #[.val (.int p1), .val (.int p2), .val (.int p3), .val (.int 1), .val (.int 0), .val (.int 2), .val (.ref b1), .val (.ref b8), .val (.ref b15), .val (.ref w_PERMIT)] [(.int 11), (.ref b15), (.ref b8), (.ref w_PERMIT)])) _
  refine own_ldI X1 hx hZ e1 V_b15 (j := (11 : Int32)) ⟨by decide, by decide⟩ rfl (g := (mkF m 243 #[.val (.int p1), .val (.int p2), .val (.int p3), .val (.int 1), .val (.int 0), .val (.int 2), .val (.ref b1), .val (.ref b8), .val (.ref b15), .val (.ref w_PERMIT)] [(.int 11), (.ref b15), (.ref b8), (.ref w_PERMIT)])) rfl rfl (hb hby at_243) _ ?_
  show Steps p.tables e below (T1.setTop (mkF m 244 #[.val (.int p1), .val (.int p2), .val (.int p3), .val (.int 1), .val (.int 0), .val (.int 2), .val (.ref b1), .val (.ref b8), .val (.ref b15), .val (.ref w_PERMIT)] [(.int 0), (.ref b8), (.ref w_PERMIT)])) _
  refine own_ldR X1 hx hZ e1 V_b8 (j := (0 : Int32)) ⟨by decide, by decide⟩ rfl (g := (mkF m 244 #[.val (.int p1), .val (.int p2), .val (.int p3), .val (.int 1), .val (.int 0), .val (.int 2), .val (.ref b1), .val (.ref b8), .val (.ref b15), .val (.ref w_PERMIT)] [(.int 0), (.ref b8), (.ref w_PERMIT)])) rfl rfl (hb hby at_244) _ ?_
  show Steps p.tables e below (T1.setTop (mkF m 245 #[.val (.int p1), .val (.int p2), .val (.int p3), .val (.int 1), .val (.int 0), .val (.int 2), .val (.ref b1), .val (.ref b8), .val (.ref b15), .val (.ref w_PERMIT)] [(.ref w_PERMIT), (.ref w_PERMIT)])) _
  refine Jvm.RoadKit.acmp (g := (mkF m 245 #[.val (.int p1), .val (.int p2), .val (.int p3), .val (.int 1), .val (.int 0), .val (.int 2), .val (.ref b1), .val (.ref b8), .val (.ref b15), .val (.ref w_PERMIT)] [(.ref w_PERMIT), (.ref w_PERMIT)])) X1 hx rfl rfl rfl (pc0 := 245) (pc' := 248) (same := true) rfl (hb hby at_245) rfl (decide_eq_true rfl) (by decide) (by decide) ?_
  show Steps p.tables e below (T1.setTop (mkF m 248 #[.val (.int p1), .val (.int p2), .val (.int p3), .val (.int 1), .val (.int 0), .val (.int 2), .val (.ref b1), .val (.ref b8), .val (.ref b15), .val (.ref w_PERMIT)] [])) _
  refine XS.iconst X1.here hx rfl (hb hby at_248) ?_
  show Steps p.tables e below (T1.setTop (mkF m 249 #[.val (.int p1), .val (.int p2), .val (.int p3), .val (.int 1), .val (.int 0), .val (.int 2), .val (.ref b1), .val (.ref b8), .val (.ref b15), .val (.ref w_PERMIT)] [(.int 1)])) _
  refine XS.goto X1.here hx rfl (pc0 := 249) (pc' := 253) rfl (hb hby at_249) (by decide) (by decide) ?_
  show Steps p.tables e below (T1.setTop (mkF m 253 #[.val (.int p1), .val (.int p2), .val (.int p3), .val (.int 1), .val (.int 0), .val (.int 2), .val (.ref b1), .val (.ref b8), .val (.ref b15), .val (.ref w_PERMIT)] [(.int 1)])) _
  exact kt
def Q1_w_PARENT_OVERRIDES_w_DENY_w_PERMIT (Z : State) (w_PARENT_OVERRIDES : Addr) (w_DENY : Addr) (w_PERMIT : Addr) (w_INDETERMINATE : Addr) (h0 : Heap) (n0 : Nat) (v : Option Value) (h : Heap) (L : List Loc) : Prop := v = some (.ref w_DENY) ∧ Fr n0 L ∧ h = h0
set_option maxRecDepth 65536 in
set_option maxHeartbeats 40000000 in
theorem rm1_w_PARENT_OVERRIDES_w_DENY_w_PERMIT (l : Launch) (Z : State) (a0 : Array Value) (hw : ∀ d ∈ tables_1, d.before a0 Z = true) (ws : List Jvm.Cond) (w_PARENT_OVERRIDES : Addr) (w_DENY : Addr) (w_PERMIT : Addr) (w_INDETERMINATE : Addr) (h0 : Heap) (n0 : Nat) (Z0 : n0 ≤ h0.size) (F_ordinal_w_PARENT_OVERRIDES : Fld Z h0 w_PARENT_OVERRIDES "java/lang/Enum" "ordinal" "I" (.int 1)) (E_w_PARENT_OVERRIDES : Exa Z h0 w_PARENT_OVERRIDES "com/example/tributary/tributary/AccessList$InheritanceType") (S_INDETERMINATE : Sta Z h0 "com/example/tributary/tributary/AccessList$Decision" "INDETERMINATE" "Lcom/example/tributary/tributary/AccessList$Decision;" (.ref w_INDETERMINATE)) (n_w_DENY_w_INDETERMINATE : ¬ (w_DENY = w_INDETERMINATE)) :
    MetFree l (⟨"com/example/tributary/tributary/AccessList$InheritanceType", "combine", "(Lcom/example/tributary/tributary/AccessList$Decision;Lcom/example/tributary/tributary/AccessList$Decision;)Lcom/example/tributary/tributary/AccessList$Decision;"⟩ : MethodName) (head1 (Jvm.Cond.code (⟨"com/example/tributary/tributary/AccessList$InheritanceType", "combine", "(Lcom/example/tributary/tributary/AccessList$Decision;Lcom/example/tributary/tributary/AccessList$Decision;)Lcom/example/tributary/tributary/AccessList$Decision;"⟩ : MethodName) prog_6_method_4_code 3 (some (.object "com/example/tributary/tributary/AccessList$Decision")) :: ws) ({ frames := 1, cells := 0, slots := 0, locals := 12 } : Room)) (fun a U => a = #[(.ref w_PARENT_OVERRIDES), (.ref w_DENY), (.ref w_PERMIT)] ∧ Z.Warmed39 U.vm ∧ U.heap = h0) (fun _ _ _ _ _ => True) (fun _ U o U' => ∃ v L, o = .returned v ∧ Q1_w_PARENT_OVERRIDES_w_DENY_w_PERMIT Z w_PARENT_OVERRIDES w_DENY w_PERMIT w_INDETERMINATE h0 n0 v U'.heap L ∧ FrameEnd U o U' L ({ frames := 1, cells := 0, slots := 0, locals := 12 } : Room).cells ({ frames := 1, cells := 0, slots := 0, locals := 12 } : Room).slots) := by
  refine MetFree.of_bodySF (plainFor_of_name pn_1) hisR ?_
  intro p e s m args below meth c s₁ Bd hml0 hP hK
  obtain ⟨rfl, hZ, hh⟩ := hP
  have hx := Bd.exec
  have hby := Bd.bytes
  have hml : c.maxLocals = 3 := hml0
  have hown : s.vm.findClass "com/example/tributary/tributary/AccessList$InheritanceType" = some m.cls := findClass_of_methodNamed Bd.named
  have hnm := (name_of_methodNamed Bd.named Bd.method).1
  have X0 : Stand p l e ({ frames := 1, cells := 0, slots := 0, locals := 12 } : Room) s m #[(.ref w_PARENT_OVERRIDES), (.ref w_DENY), (.ref w_PERMIT)] below meth c s₁ [] 0 0 := Stand.of_body Bd
  have e0 : s₁.heap = h0 := by rw [← hh, Bd.state]; rfl
  have N0 := Fr.nil n0
  have pre0 : ∀ t, Steps p.tables e below (s₁.setTop (mkF m 0 #[.val (.ref w_PARENT_OVERRIDES), .val (.ref w_DENY), .val (.ref w_PERMIT)] [])) t → Steps p.tables e below (s₁.setTop (entryFrame m #[(.ref w_PARENT_OVERRIDES), (.ref w_DENY), (.ref w_PERMIT)] 3)) t := fun t k => castTop (by first | (simp [entryFrame, mkF, argsToLocals, Value.category]; done) | rfl) k
  obtain ⟨cq1, kq1, q1a, q1b, q1c⟩ := isOf hZ e0 E_w_PARENT_OVERRIDES
  obtain ⟨_, _, ⟨T1, L1, k1, n1⟩, -, X1, ⟨Lc1, hQ1, l1, y1, z1⟩, st1⟩ := X0.virtualBackUp hx (x := (⟨"com/example/tributary/tributary/AccessList$InheritanceType", "ordinal", "()I"⟩ : MethodName)) (y := (⟨"java/lang/Enum", "ordinal", "()I"⟩ : MethodName)) (owner := "java/lang/Enum") hown (mvT hZ (hw _ (List.mem_of_getElem? (i := 27) rfl))) (mvT hZ (hw _ (List.mem_of_getElem? (i := 28) rfl))) (mvT hZ (hw _ (List.mem_of_getElem? (i := 29) rfl))) (by decide) (mvT hZ (hw _ (List.mem_of_getElem? (i := 31) rfl))) (mvT hZ (hw _ (List.mem_of_getElem? (i := 30) rfl))) (backOf (W := 0) (rm2_w_PARENT_OVERRIDES l Z a0 hw [] w_PARENT_OVERRIDES h0 n0 Z0 F_ordinal_w_PARENT_OVERRIDES) hZ (hw _ (List.mem_of_getElem? (i := 33) rfl)) (hw _ (List.mem_of_getElem? (i := 32) rfl)) (by decide) (by decide)) q1a q1c (g := (mkF m 1 #[.val (.ref w_PARENT_OVERRIDES), .val (.ref w_DENY), .val (.ref w_PERMIT)] [(.ref w_PARENT_OVERRIDES)])) rfl (by rw [hml]; rfl) (Steps.refl _) (argsL := []) (rest := []) (lenOf pd___I rfl) rfl (by show 2 * 0 + _ ≤ _; exact Nat.le_of_eq rfl) (hb hby d1_1) (fun _ _ => ⟨rfl, e0, (by decide : 0 + 0 ≤ _), (by decide : 0 + 0 ≤ _)⟩)
  dsimp only [Pt.U, Pt.locs, Pt.cells, Pt.slots] at X1 l1 y1 z1 st1 hQ1
  subst l1 y1 z1
  obtain ⟨rfl, N1q, e1⟩ := hQ1
  have N1 := Fr.app N0 N1q
  obtain ⟨T2, X2, e2, st2⟩ := getS2 X1 hx hZ hown (host := "") (Or.inl (hw _ (List.mem_of_getElem? (i := 36) rfl))) Via.refl e1 S_INDETERMINATE (g := (mkF m 62 #[.val (.ref w_PARENT_OVERRIDES), .val (.ref w_DENY), .val (.ref w_PERMIT)] [(.ref w_DENY)])) rfl (hb hby d1_62)
  obtain ⟨fs, hr, hrun, hended, hW, hsame⟩ := X2.leave (v := some (.ref w_DENY)) (fun h => by rw [Bd.returns] at h; cases h)
  refine ⟨_, _, pre0 _ ?_, hrun, hended, _, _, rfl, ?_, ⟨_, rfl⟩, hW, hsame.mono (by decide) (by decide)⟩
  · show Steps p.tables e below (s₁.setTop (mkF m 0 #[.val (.ref w_PARENT_OVERRIDES), .val (.ref w_DENY), .val (.ref w_PERMIT)] [])) _
    refine XS.aloadN X0.here hx rfl (hb hby d1_0) rfl rfl ?_
    show Steps p.tables e below (s₁.setTop (mkF m 1 #[.val (.ref w_PARENT_OVERRIDES), .val (.ref w_DENY), .val (.ref w_PERMIT)] [(.ref w_PARENT_OVERRIDES)])) _
    refine st1.trans ?_
    show Steps p.tables e below (T1.setTop (mkF m 4 #[.val (.ref w_PARENT_OVERRIDES), .val (.ref w_DENY), .val (.ref w_PERMIT)] [(.int 1)])) _
    refine XS.tswIn X1.here hx rfl (pc0 := 4) (pc' := 61) rfl (hb hby d1_4) rfl (by decide) (o := 57) (by decide) (by decide) (by decide) ?_
    show Steps p.tables e below (T1.setTop (mkF m 61 #[.val (.ref w_PARENT_OVERRIDES), .val (.ref w_DENY), .val (.ref w_PERMIT)] [])) _
    refine XS.aloadN X1.here hx rfl (hb hby d1_61) rfl rfl ?_
    show Steps p.tables e below (T1.setTop (mkF m 62 #[.val (.ref w_PARENT_OVERRIDES), .val (.ref w_DENY), .val (.ref w_PERMIT)] [(.ref w_DENY)])) _
    refine st2 _ ?_
    show Steps p.tables e below (T2.setTop (mkF m 65 #[.val (.ref w_PARENT_OVERRIDES), .val (.ref w_DENY), .val (.ref w_PERMIT)] [(.ref w_INDETERMINATE), (.ref w_DENY)])) _
    refine Jvm.RoadKit.acmp (g := (mkF m 65 #[.val (.ref w_PARENT_OVERRIDES), .val (.ref w_DENY), .val (.ref w_PERMIT)] [(.ref w_INDETERMINATE), (.ref w_DENY)])) X2 hx rfl rfl rfl (pc0 := 65) (pc' := 72) (same := false) rfl (hb hby d1_65) rfl (decide_eq_false fun q => n_w_DENY_w_INDETERMINATE (Value.ref.inj q)) (by decide) (by decide) ?_
    show Steps p.tables e below (T2.setTop (mkF m 72 #[.val (.ref w_PARENT_OVERRIDES), .val (.ref w_DENY), .val (.ref w_PERMIT)] [])) _
    refine XS.aloadN X2.here hx rfl (hb hby d1_72) rfl rfl ?_
    show Steps p.tables e below (T2.setTop (mkF m 73 #[.val (.ref w_PARENT_OVERRIDES), .val (.ref w_DENY), .val (.ref w_PERMIT)] [(.ref w_DENY)])) _
    refine XS.goto X2.here hx rfl (pc0 := 73) (pc' := 112) rfl (hb hby d1_73) (by decide) (by decide) ?_
    show Steps p.tables e below (T2.setTop (mkF m 112 #[.val (.ref w_PARENT_OVERRIDES), .val (.ref w_DENY), .val (.ref w_PERMIT)] [(.ref w_DENY)])) _
    jvm_step X2.here [X2.here.top, hx, (hb hby d1_112), X2.method', Bd.returns, Value.isRef, FieldType.isReference]
    first | (intro acts; rw [hr _ acts rfl rfl rfl]) | rw [hr _ _ rfl rfl rfl]
    exact Steps.refl _
  · show Q1_w_PARENT_OVERRIDES_w_DENY_w_PERMIT Z w_PARENT_OVERRIDES w_DENY w_PERMIT w_INDETERMINATE h0 n0 _ T2.heap _
    rw [e2]
    exact ⟨rfl, N1, rfl⟩
set_option maxRecDepth 65536 in
set_option maxHeartbeats 40000000 in
theorem pc0_k110 {p : Program} {l : Launch} {e : Env} {s : State} {m : MethodId} {args : Array Value} {below : List Frame} {meth : Method} {c : Code} {T0 : State} {locs : List Loc} {Z : State} {a0 : Array Value} {h0 : Heap} {n0 : Nat} (p1 : Int32) (p2 : Int32) (p3 : Int32) (b1 : Addr) (b8 : Addr) (b15 : Addr) (k1 : ClassId) (w_CHILD_OVERRIDES : Addr) (w_PARENT_OVERRIDES : Addr) (w_AND_BOTH_PERMIT : Addr) (k8 : ClassId) (w_PERMIT : Addr) (w_DENY : Addr) (w_INDETERMINATE : Addr) (k15 : ClassId)
    (X0 : Stand p l e room_1 s m args below meth c T0 locs 3 33) (hx : p.tables.exec = Jvm.exec) (hZ : Z.Warmed39 s.vm) (hw : ∀ d ∈ tables_1, d.before a0 Z = true) (hby : c.code = code) (hml : c.maxLocals = 10) (hown : s.vm.findClass "com/example/tributary/tributary/InheritanceTypeCombinePinLaw" = some m.cls) (e0 : T0.heap = h0) (Z0 : n0 ≤ h0.size) (N0 : Fr n0 locs) (V_b1 : Arv Z h0 b1 k1 (.object "com/example/tributary/tributary/AccessList$InheritanceType") (3 : Int32) [(.ref w_CHILD_OVERRIDES), (.ref w_PARENT_OVERRIDES), (.ref w_AND_BOTH_PERMIT)] .null) (V_b8 : Arv Z h0 b8 k8 (.object "com/example/tributary/tributary/AccessList$Decision") (3 : Int32) [(.ref w_PERMIT), (.ref w_DENY), (.ref w_INDETERMINATE)] .null) (F_ordinal_w_PARENT_OVERRIDES : Fld Z h0 w_PARENT_OVERRIDES "java/lang/Enum" "ordinal" "I" (.int 1)) (E_w_PARENT_OVERRIDES : Exa Z h0 w_PARENT_OVERRIDES "com/example/tributary/tributary/AccessList$InheritanceType") (S_INDETERMINATE : Sta Z h0 "com/example/tributary/tributary/AccessList$Decision" "INDETERMINATE" "Lcom/example/tributary/tributary/AccessList$Decision;" (.ref w_INDETERMINATE)) (n_w_DENY_w_INDETERMINATE : ¬ (w_DENY = w_INDETERMINATE)) (V_b15 : Arv Z h0 b15 k15 .int (27 : Int32) [(.int 0), (.int 1), (.int 0), (.int 0), (.int 1), (.int 1), (.int 0), (.int 1), (.int 2), (.int 0), (.int 0), (.int 0), (.int 1), (.int 1), (.int 1), (.int 0), (.int 1), (.int 2), (.int 0), (.int 1), (.int 1), (.int 1), (.int 1), (.int 1), (.int 1), (.int 1), (.int 1)] (.int (0 : Int32))) :
    ∃ (T' : State) (L' : List Loc) (Ls : Array Slot), Stand p l e room_1 s m args below meth c T' L' 3 33 ∧ Fr n0 L' ∧ ∀ target, Steps p.tables e below (T'.setTop (mkF m 253 Ls [(.int 1)])) target → Steps p.tables e below (T0.setTop (mkF m 206 #[.val (.int p1), .val (.int p2), .val (.int p3), .val (.int 1), .val (.int 1), .val (.int 0), .val (.ref b1), .val (.ref b8), .val (.ref b15), .unset] [])) target := by
  obtain ⟨cq1, kq1, q1a, q1b, q1c⟩ := isOf hZ e0 E_w_PARENT_OVERRIDES
  obtain ⟨_, _, ⟨T1, L1, k1, n1⟩, -, X1, ⟨Lc1, hQ1, l1, y1, z1⟩, st1⟩ := X0.virtualBack hx (y := (⟨"com/example/tributary/tributary/AccessList$InheritanceType", "combine", "(Lcom/example/tributary/tributary/AccessList$Decision;Lcom/example/tributary/tributary/AccessList$Decision;)Lcom/example/tributary/tributary/AccessList$Decision;"⟩ : MethodName)) (z := (⟨"com/example/tributary/tributary/AccessList$InheritanceType", "combine", "(Lcom/example/tributary/tributary/AccessList$Decision;Lcom/example/tributary/tributary/AccessList$Decision;)Lcom/example/tributary/tributary/AccessList$Decision;"⟩ : MethodName)) hown (mvT hZ (hw _ (List.mem_of_getElem? (i := 22) rfl))) (mvT hZ (hw _ (List.mem_of_getElem? (i := 23) rfl))) (notFace_of_selects (args := #[]) (mvT hZ (hw _ (List.mem_of_getElem? (i := 25) rfl)))) (mvT hZ (hw _ (List.mem_of_getElem? (i := 25) rfl))) (mvT hZ (hw _ (List.mem_of_getElem? (i := 24) rfl))) (by decide) (backOf (W := 0) (rm1_w_PARENT_OVERRIDES_w_DENY_w_PERMIT l Z a0 hw [] w_PARENT_OVERRIDES w_DENY w_PERMIT w_INDETERMINATE h0 n0 Z0 F_ordinal_w_PARENT_OVERRIDES E_w_PARENT_OVERRIDES S_INDETERMINATE n_w_DENY_w_INDETERMINATE) hZ (hw _ (List.mem_of_getElem? (i := 26) rfl)) (hw _ (List.mem_of_getElem? (i := 4) rfl)) (by decide) (by decide)) q1a q1c (g := (mkF m 220 #[.val (.int p1), .val (.int p2), .val (.int p3), .val (.int 1), .val (.int 1), .val (.int 0), .val (.ref b1), .val (.ref b8), .val (.ref b15), .unset] [(.ref w_PERMIT), (.ref w_DENY), (.ref w_PARENT_OVERRIDES)])) rfl (by rw [hml]; rfl) (Steps.refl _) (argsL := [(.ref w_DENY), (.ref w_PERMIT)]) (rest := []) (lenOf pd__Lcom_example_tributary_tributary_AccessList_Decision_Lcom_example_tributary_tributary_AccessList_Decision__Lcom_example_tributary_tributary_AccessList_Decision_ rfl) rfl (by show 2 * 0 + _ ≤ _; exact Nat.le_of_eq rfl) (hb hby at_220) (fun _ _ => ⟨rfl, e0, (by decide : 3 + 0 ≤ _), (by decide : 33 + 0 ≤ _)⟩)
  dsimp only [Pt.U, Pt.locs, Pt.cells, Pt.slots] at X1 l1 y1 z1 st1 hQ1
  subst l1 y1 z1
  obtain ⟨rfl, N1q, e1⟩ := hQ1
  have N1 := Fr.app N0 N1q
  refine ⟨T1, _, #[.val (.int p1), .val (.int p2), .val (.int p3), .val (.int 1), .val (.int 1), .val (.int 0), .val (.ref b1), .val (.ref b8), .val (.ref b15), .val (.ref w_DENY)], X1, N1, fun target kt => ?_⟩
  show Steps p.tables e below (T0.setTop (mkF m 206 #[.val (.int p1), .val (.int p2), .val (.int p3), .val (.int 1), .val (.int 1), .val (.int 0), .val (.ref b1), .val (.ref b8), .val (.ref b15), .unset] [])) _
  refine XS.aload X0.here hx rfl (hb hby at_206) rfl rfl ?_
  show Steps p.tables e below (T0.setTop (mkF m 208 #[.val (.int p1), .val (.int p2), .val (.int p3), .val (.int 1), .val (.int 1), .val (.int 0), .val (.ref b1), .val (.ref b8), .val (.ref b15), .unset] [(.ref b1)])) _
  refine XS.iloadN X0.here hx rfl (hb hby at_208) rfl ?_
  show Steps p.tables e below (T0.setTop (mkF m 209 #[.val (.int p1), .val (.int p2), .val (.int p3), .val (.int 1), .val (.int 1), .val (.int 0), .val (.ref b1), .val (.ref b8), .val (.ref b15), .unset] [(.int 1), (.ref b1)])) _
  refine own_ldR X0 hx hZ e0 V_b1 (j := (1 : Int32)) ⟨by decide, by decide⟩ rfl (g := (mkF m 209 #[.val (.int p1), .val (.int p2), .val (.int p3), .val (.int 1), .val (.int 1), .val (.int 0), .val (.ref b1), .val (.ref b8), .val (.ref b15), .unset] [(.int 1), (.ref b1)])) rfl rfl (hb hby at_209) _ ?_
  show Steps p.tables e below (T0.setTop (mkF m 210 #[.val (.int p1), .val (.int p2), .val (.int p3), .val (.int 1), .val (.int 1), .val (.int 0), .val (.ref b1), .val (.ref b8), .val (.ref b15), .unset] [(.ref w_PARENT_OVERRIDES)])) _
  refine XS.aload X0.here hx rfl (hb hby at_210) rfl rfl ?_
  show Steps p.tables e below (T0.setTop (mkF m 212 #[.val (.int p1), .val (.int p2), .val (.int p3), .val (.int 1), .val (.int 1), .val (.int 0), .val (.ref b1), .val (.ref b8), .val (.ref b15), .unset] [(.ref b8), (.ref w_PARENT_OVERRIDES)])) _
  refine XS.iload X0.here hx rfl (hb hby at_212) rfl ?_
  show Steps p.tables e below (T0.setTop (mkF m 214 #[.val (.int p1), .val (.int p2), .val (.int p3), .val (.int 1), .val (.int 1), .val (.int 0), .val (.ref b1), .val (.ref b8), .val (.ref b15), .unset] [(.int 1), (.ref b8), (.ref w_PARENT_OVERRIDES)])) _
  refine own_ldR X0 hx hZ e0 V_b8 (j := (1 : Int32)) ⟨by decide, by decide⟩ rfl (g := (mkF m 214 #[.val (.int p1), .val (.int p2), .val (.int p3), .val (.int 1), .val (.int 1), .val (.int 0), .val (.ref b1), .val (.ref b8), .val (.ref b15), .unset] [(.int 1), (.ref b8), (.ref w_PARENT_OVERRIDES)])) rfl rfl (hb hby at_214) _ ?_
  show Steps p.tables e below (T0.setTop (mkF m 215 #[.val (.int p1), .val (.int p2), .val (.int p3), .val (.int 1), .val (.int 1), .val (.int 0), .val (.ref b1), .val (.ref b8), .val (.ref b15), .unset] [(.ref w_DENY), (.ref w_PARENT_OVERRIDES)])) _
  refine XS.aload X0.here hx rfl (hb hby at_215) rfl rfl ?_
  show Steps p.tables e below (T0.setTop (mkF m 217 #[.val (.int p1), .val (.int p2), .val (.int p3), .val (.int 1), .val (.int 1), .val (.int 0), .val (.ref b1), .val (.ref b8), .val (.ref b15), .unset] [(.ref b8), (.ref w_DENY), (.ref w_PARENT_OVERRIDES)])) _
  refine XS.iload X0.here hx rfl (hb hby at_217) rfl ?_
  show Steps p.tables e below (T0.setTop (mkF m 219 #[.val (.int p1), .val (.int p2), .val (.int p3), .val (.int 1), .val (.int 1), .val (.int 0), .val (.ref b1), .val (.ref b8), .val (.ref b15), .unset] [(.int 0), (.ref b8), (.ref w_DENY), (.ref w_PARENT_OVERRIDES)])) _
  refine own_ldR X0 hx hZ e0 V_b8 (j := (0 : Int32)) ⟨by decide, by decide⟩ rfl (g := (mkF m 219 #[.val (.int p1), .val (.int p2), .val (.int p3), .val (.int 1), .val (.int 1), .val (.int 0), .val (.ref b1), .val (.ref b8), .val (.ref b15), .unset] [(.int 0), (.ref b8), (.ref w_DENY), (.ref w_PARENT_OVERRIDES)])) rfl rfl (hb hby at_219) _ ?_
  show Steps p.tables e below (T0.setTop (mkF m 220 #[.val (.int p1), .val (.int p2), .val (.int p3), .val (.int 1), .val (.int 1), .val (.int 0), .val (.ref b1), .val (.ref b8), .val (.ref b15), .unset] [(.ref w_PERMIT), (.ref w_DENY), (.ref w_PARENT_OVERRIDES)])) _
  refine st1.trans ?_
  show Steps p.tables e below (T1.setTop (mkF m 223 #[.val (.int p1), .val (.int p2), .val (.int p3), .val (.int 1), .val (.int 1), .val (.int 0), .val (.ref b1), .val (.ref b8), .val (.ref b15), .unset] [(.ref w_DENY)])) _
  refine XS.astore X1.here hx rfl (hb hby at_223) rfl rfl (l' := #[.val (.int p1), .val (.int p2), .val (.int p3), .val (.int 1), .val (.int 1), .val (.int 0), .val (.ref b1), .val (.ref b8), .val (.ref b15), .val (.ref w_DENY)]) rfl ?_
  show Steps p.tables e below (T1.setTop (mkF m 225 #[.val (.int p1), .val (.int p2), .val (.int p3), .val (.int 1), .val (.int 1), .val (.int 0), .val (.ref b1), .val (.ref b8), .val (.ref b15), .val (.ref w_DENY)] [])) _
  refine XS.aload X1.here hx rfl (hb hby at_225) rfl rfl ?_
  show Steps p.tables e below (T1.setTop (mkF m 227 #[.val (.int p1), .val (.int p2), .val (.int p3), .val (.int 1), .val (.int 1), .val (.int 0), .val (.ref b1), .val (.ref b8), .val (.ref b15), .val (.ref w_DENY)] [(.ref w_DENY)])) _
  refine XS.aload X1.here hx rfl (hb hby at_227) rfl rfl ?_
  show Steps p.tables e below (T1.setTop (mkF m 229 #[.val (.int p1), .val (.int p2), .val (.int p3), .val (.int 1), .val (.int 1), .val (.int 0), .val (.ref b1), .val (.ref b8), .val (.ref b15), .val (.ref w_DENY)] [(.ref b8), (.ref w_DENY)])) _
  refine XS.aload X1.here hx rfl (hb hby at_229) rfl rfl ?_
  show Steps p.tables e below (T1.setTop (mkF m 231 #[.val (.int p1), .val (.int p2), .val (.int p3), .val (.int 1), .val (.int 1), .val (.int 0), .val (.ref b1), .val (.ref b8), .val (.ref b15), .val (.ref w_DENY)] [(.ref b15), (.ref b8), (.ref w_DENY)])) _
  refine XS.iloadN X1.here hx rfl (hb hby at_231) rfl ?_
  show Steps p.tables e below (T1.setTop (mkF m 232 #[.val (.int p1), .val (.int p2), .val (.int p3), .val (.int 1), .val (.int 1), .val (.int 0), .val (.ref b1), .val (.ref b8), .val (.ref b15), .val (.ref w_DENY)] [(.int 1), (.ref b15), (.ref b8), (.ref w_DENY)])) _
  refine XS.bipush X1.here hx rfl (hb hby at_232) ?_
  show Steps p.tables e below (T1.setTop (mkF m 234 #[.val (.int p1), .val (.int p2), .val (.int p3), .val (.int 1), .val (.int 1), .val (.int 0), .val (.ref b1), .val (.ref b8), .val (.ref b15), .val (.ref w_DENY)] [(.int 9), (.int 1), (.ref b15), (.ref b8), (.ref w_DENY)])) _
  refine XS.imul X1.here hx rfl (hb hby at_234) rfl ?_
  show Steps p.tables e below (T1.setTop (mkF m 235 #[.val (.int p1), .val (.int p2), .val (.int p3), .val (.int 1), .val (.int 1), .val (.int 0), .val (.ref b1), .val (.ref b8), .val (.ref b15), .val (.ref w_DENY)] [(.int ((1 : Int32) * (9 : Int32))), (.ref b15), (.ref b8), (.ref w_DENY)])) _
  rw [(by decide : ((1 : Int32) * (9 : Int32)) = (9 : Int32))]
  show Steps p.tables e below (T1.setTop (mkF m 235 #[.val (.int p1), .val (.int p2), .val (.int p3), .val (.int 1), .val (.int 1), .val (.int 0), .val (.ref b1), .val (.ref b8), .val (.ref b15), .val (.ref w_DENY)] [(.int 9), (.ref b15), (.ref b8), (.ref w_DENY)])) _
  refine XS.iload X1.here hx rfl (hb hby at_235) rfl ?_
  show Steps p.tables e below (T1.setTop (mkF m 237 #[.val (.int p1), .val (.int p2), .val (.int p3), .val (.int 1), .val (.int 1), .val (.int 0), .val (.ref b1), .val (.ref b8), .val (.ref b15), .val (.ref w_DENY)] [(.int 1), (.int 9), (.ref b15), (.ref b8), (.ref w_DENY)])) _
  refine XS.iconst X1.here hx rfl (hb hby at_237) ?_
  show Steps p.tables e below (T1.setTop (mkF m 238 #[.val (.int p1), .val (.int p2), .val (.int p3), .val (.int 1), .val (.int 1), .val (.int 0), .val (.ref b1), .val (.ref b8), .val (.ref b15), .val (.ref w_DENY)] [(.int 3), (.int 1), (.int 9), (.ref b15), (.ref b8), (.ref w_DENY)])) _
  refine XS.imul X1.here hx rfl (hb hby at_238) rfl ?_
  show Steps p.tables e below (T1.setTop (mkF m 239 #[.val (.int p1), .val (.int p2), .val (.int p3), .val (.int 1), .val (.int 1), .val (.int 0), .val (.ref b1), .val (.ref b8), .val (.ref b15), .val (.ref w_DENY)] [(.int ((1 : Int32) * (3 : Int32))), (.int 9), (.ref b15), (.ref b8), (.ref w_DENY)])) _
  rw [(by decide : ((1 : Int32) * (3 : Int32)) = (3 : Int32))]
  show Steps p.tables e below (T1.setTop (mkF m 239 #[.val (.int p1), .val (.int p2), .val (.int p3), .val (.int 1), .val (.int 1), .val (.int 0), .val (.ref b1), .val (.ref b8), .val (.ref b15), .val (.ref w_DENY)] [(.int 3), (.int 9), (.ref b15), (.ref b8), (.ref w_DENY)])) _
  refine XS.iadd X1.here hx rfl (hb hby at_239) rfl ?_
  show Steps p.tables e below (T1.setTop (mkF m 240 #[.val (.int p1), .val (.int p2), .val (.int p3), .val (.int 1), .val (.int 1), .val (.int 0), .val (.ref b1), .val (.ref b8), .val (.ref b15), .val (.ref w_DENY)] [(.int ((9 : Int32) + (3 : Int32))), (.ref b15), (.ref b8), (.ref w_DENY)])) _
  rw [(by decide : ((9 : Int32) + (3 : Int32)) = (12 : Int32))]
  show Steps p.tables e below (T1.setTop (mkF m 240 #[.val (.int p1), .val (.int p2), .val (.int p3), .val (.int 1), .val (.int 1), .val (.int 0), .val (.ref b1), .val (.ref b8), .val (.ref b15), .val (.ref w_DENY)] [(.int 12), (.ref b15), (.ref b8), (.ref w_DENY)])) _
  refine XS.iload X1.here hx rfl (hb hby at_240) rfl ?_
  show Steps p.tables e below (T1.setTop (mkF m 242 #[.val (.int p1), .val (.int p2), .val (.int p3), .val (.int 1), .val (.int 1), .val (.int 0), .val (.ref b1), .val (.ref b8), .val (.ref b15), .val (.ref w_DENY)] [(.int 0), (.int 12), (.ref b15), (.ref b8), (.ref w_DENY)])) _
  refine XS.iadd X1.here hx rfl (hb hby at_242) rfl ?_
  show Steps p.tables e below (T1.setTop (mkF m 243 #[.val (.int p1), .val (.int p2), .val (.int p3), .val (.int 1), .val (.int 1), .val (.int 0), .val (.ref b1), .val (.ref b8), .val (.ref b15), .val (.ref w_DENY)] [(.int ((12 : Int32) + (0 : Int32))), (.ref b15), (.ref b8), (.ref w_DENY)])) _
  rw [(by decide : ((12 : Int32) + (0 : Int32)) = (12 : Int32))]
  show Steps p.tables e below (T1.setTop (mkF m 243 #[.val (.int p1), .val (.int p2), .val (.int p3), .val (.int 1), .val (.int 1), .val (.int 0), .val (.ref b1), .val (.ref b8), .val (.ref b15), .val (.ref w_DENY)] [(.int 12), (.ref b15), (.ref b8), (.ref w_DENY)])) _
  refine own_ldI X1 hx hZ e1 V_b15 (j := (12 : Int32)) ⟨by decide, by decide⟩ rfl (g := (mkF m 243 #[.val (.int p1), .val (.int p2), .val (.int p3), .val (.int 1), .val (.int 1), .val (.int 0), .val (.ref b1), .val (.ref b8), .val (.ref b15), .val (.ref w_DENY)] [(.int 12), (.ref b15), (.ref b8), (.ref w_DENY)])) rfl rfl (hb hby at_243) _ ?_
  show Steps p.tables e below (T1.setTop (mkF m 244 #[.val (.int p1), .val (.int p2), .val (.int p3), .val (.int 1), .val (.int 1), .val (.int 0), .val (.ref b1), .val (.ref b8), .val (.ref b15), .val (.ref w_DENY)] [(.int 1), (.ref b8), (.ref w_DENY)])) _
  refine own_ldR X1 hx hZ e1 V_b8 (j := (1 : Int32)) ⟨by decide, by decide⟩ rfl (g := (mkF m 244 #[.val (.int p1), .val (.int p2), .val (.int p3), .val (.int 1), .val (.int 1), .val (.int 0), .val (.ref b1), .val (.ref b8), .val (.ref b15), .val (.ref w_DENY)] [(.int 1), (.ref b8), (.ref w_DENY)])) rfl rfl (hb hby at_244) _ ?_
  show Steps p.tables e below (T1.setTop (mkF m 245 #[.val (.int p1), .val (.int p2), .val (.int p3), .val (.int 1), .val (.int 1), .val (.int 0), .val (.ref b1), .val (.ref b8), .val (.ref b15), .val (.ref w_DENY)] [(.ref w_DENY), (.ref w_DENY)])) _
  refine Jvm.RoadKit.acmp (g := (mkF m 245 #[.val (.int p1), .val (.int p2), .val (.int p3), .val (.int 1), .val (.int 1), .val (.int 0), .val (.ref b1), .val (.ref b8), .val (.ref b15), .val (.ref w_DENY)] [(.ref w_DENY), (.ref w_DENY)])) X1 hx rfl rfl rfl (pc0 := 245) (pc' := 248) (same := true) rfl (hb hby at_245) rfl (decide_eq_true rfl) (by decide) (by decide) ?_
  show Steps p.tables e below (T1.setTop (mkF m 248 #[.val (.int p1), .val (.int p2), .val (.int p3), .val (.int 1), .val (.int 1), .val (.int 0), .val (.ref b1), .val (.ref b8), .val (.ref b15), .val (.ref w_DENY)] [])) _
  refine XS.iconst X1.here hx rfl (hb hby at_248) ?_
  show Steps p.tables e below (T1.setTop (mkF m 249 #[.val (.int p1), .val (.int p2), .val (.int p3), .val (.int 1), .val (.int 1), .val (.int 0), .val (.ref b1), .val (.ref b8), .val (.ref b15), .val (.ref w_DENY)] [(.int 1)])) _
  refine XS.goto X1.here hx rfl (pc0 := 249) (pc' := 253) rfl (hb hby at_249) (by decide) (by decide) ?_
  show Steps p.tables e below (T1.setTop (mkF m 253 #[.val (.int p1), .val (.int p2), .val (.int p3), .val (.int 1), .val (.int 1), .val (.int 0), .val (.ref b1), .val (.ref b8), .val (.ref b15), .val (.ref w_DENY)] [(.int 1)])) _
  exact kt
def Q1_w_PARENT_OVERRIDES_w_DENY_w_DENY (Z : State) (w_PARENT_OVERRIDES : Addr) (w_DENY : Addr) (w_INDETERMINATE : Addr) (h0 : Heap) (n0 : Nat) (v : Option Value) (h : Heap) (L : List Loc) : Prop := v = some (.ref w_DENY) ∧ Fr n0 L ∧ h = h0
set_option maxRecDepth 65536 in
set_option maxHeartbeats 40000000 in
theorem rm1_w_PARENT_OVERRIDES_w_DENY_w_DENY (l : Launch) (Z : State) (a0 : Array Value) (hw : ∀ d ∈ tables_1, d.before a0 Z = true) (ws : List Jvm.Cond) (w_PARENT_OVERRIDES : Addr) (w_DENY : Addr) (w_INDETERMINATE : Addr) (h0 : Heap) (n0 : Nat) (Z0 : n0 ≤ h0.size) (F_ordinal_w_PARENT_OVERRIDES : Fld Z h0 w_PARENT_OVERRIDES "java/lang/Enum" "ordinal" "I" (.int 1)) (E_w_PARENT_OVERRIDES : Exa Z h0 w_PARENT_OVERRIDES "com/example/tributary/tributary/AccessList$InheritanceType") (S_INDETERMINATE : Sta Z h0 "com/example/tributary/tributary/AccessList$Decision" "INDETERMINATE" "Lcom/example/tributary/tributary/AccessList$Decision;" (.ref w_INDETERMINATE)) (n_w_DENY_w_INDETERMINATE : ¬ (w_DENY = w_INDETERMINATE)) :
    MetFree l (⟨"com/example/tributary/tributary/AccessList$InheritanceType", "combine", "(Lcom/example/tributary/tributary/AccessList$Decision;Lcom/example/tributary/tributary/AccessList$Decision;)Lcom/example/tributary/tributary/AccessList$Decision;"⟩ : MethodName) (head1 (Jvm.Cond.code (⟨"com/example/tributary/tributary/AccessList$InheritanceType", "combine", "(Lcom/example/tributary/tributary/AccessList$Decision;Lcom/example/tributary/tributary/AccessList$Decision;)Lcom/example/tributary/tributary/AccessList$Decision;"⟩ : MethodName) prog_6_method_4_code 3 (some (.object "com/example/tributary/tributary/AccessList$Decision")) :: ws) ({ frames := 1, cells := 0, slots := 0, locals := 12 } : Room)) (fun a U => a = #[(.ref w_PARENT_OVERRIDES), (.ref w_DENY), (.ref w_DENY)] ∧ Z.Warmed39 U.vm ∧ U.heap = h0) (fun _ _ _ _ _ => True) (fun _ U o U' => ∃ v L, o = .returned v ∧ Q1_w_PARENT_OVERRIDES_w_DENY_w_DENY Z w_PARENT_OVERRIDES w_DENY w_INDETERMINATE h0 n0 v U'.heap L ∧ FrameEnd U o U' L ({ frames := 1, cells := 0, slots := 0, locals := 12 } : Room).cells ({ frames := 1, cells := 0, slots := 0, locals := 12 } : Room).slots) := by
  refine MetFree.of_bodySF (plainFor_of_name pn_1) hisR ?_
  intro p e s m args below meth c s₁ Bd hml0 hP hK
  obtain ⟨rfl, hZ, hh⟩ := hP
  have hx := Bd.exec
  have hby := Bd.bytes
  have hml : c.maxLocals = 3 := hml0
  have hown : s.vm.findClass "com/example/tributary/tributary/AccessList$InheritanceType" = some m.cls := findClass_of_methodNamed Bd.named
  have hnm := (name_of_methodNamed Bd.named Bd.method).1
  have X0 : Stand p l e ({ frames := 1, cells := 0, slots := 0, locals := 12 } : Room) s m #[(.ref w_PARENT_OVERRIDES), (.ref w_DENY), (.ref w_DENY)] below meth c s₁ [] 0 0 := Stand.of_body Bd
  have e0 : s₁.heap = h0 := by rw [← hh, Bd.state]; rfl
  have N0 := Fr.nil n0
  have pre0 : ∀ t, Steps p.tables e below (s₁.setTop (mkF m 0 #[.val (.ref w_PARENT_OVERRIDES), .val (.ref w_DENY), .val (.ref w_DENY)] [])) t → Steps p.tables e below (s₁.setTop (entryFrame m #[(.ref w_PARENT_OVERRIDES), (.ref w_DENY), (.ref w_DENY)] 3)) t := fun t k => castTop (by first | (simp [entryFrame, mkF, argsToLocals, Value.category]; done) | rfl) k
  obtain ⟨cq1, kq1, q1a, q1b, q1c⟩ := isOf hZ e0 E_w_PARENT_OVERRIDES
  obtain ⟨_, _, ⟨T1, L1, k1, n1⟩, -, X1, ⟨Lc1, hQ1, l1, y1, z1⟩, st1⟩ := X0.virtualBackUp hx (x := (⟨"com/example/tributary/tributary/AccessList$InheritanceType", "ordinal", "()I"⟩ : MethodName)) (y := (⟨"java/lang/Enum", "ordinal", "()I"⟩ : MethodName)) (owner := "java/lang/Enum") hown (mvT hZ (hw _ (List.mem_of_getElem? (i := 27) rfl))) (mvT hZ (hw _ (List.mem_of_getElem? (i := 28) rfl))) (mvT hZ (hw _ (List.mem_of_getElem? (i := 29) rfl))) (by decide) (mvT hZ (hw _ (List.mem_of_getElem? (i := 31) rfl))) (mvT hZ (hw _ (List.mem_of_getElem? (i := 30) rfl))) (backOf (W := 0) (rm2_w_PARENT_OVERRIDES l Z a0 hw [] w_PARENT_OVERRIDES h0 n0 Z0 F_ordinal_w_PARENT_OVERRIDES) hZ (hw _ (List.mem_of_getElem? (i := 33) rfl)) (hw _ (List.mem_of_getElem? (i := 32) rfl)) (by decide) (by decide)) q1a q1c (g := (mkF m 1 #[.val (.ref w_PARENT_OVERRIDES), .val (.ref w_DENY), .val (.ref w_DENY)] [(.ref w_PARENT_OVERRIDES)])) rfl (by rw [hml]; rfl) (Steps.refl _) (argsL := []) (rest := []) (lenOf pd___I rfl) rfl (by show 2 * 0 + _ ≤ _; exact Nat.le_of_eq rfl) (hb hby d1_1) (fun _ _ => ⟨rfl, e0, (by decide : 0 + 0 ≤ _), (by decide : 0 + 0 ≤ _)⟩)
  dsimp only [Pt.U, Pt.locs, Pt.cells, Pt.slots] at X1 l1 y1 z1 st1 hQ1
  subst l1 y1 z1
  obtain ⟨rfl, N1q, e1⟩ := hQ1
  have N1 := Fr.app N0 N1q
  obtain ⟨T2, X2, e2, st2⟩ := getS2 X1 hx hZ hown (host := "") (Or.inl (hw _ (List.mem_of_getElem? (i := 36) rfl))) Via.refl e1 S_INDETERMINATE (g := (mkF m 62 #[.val (.ref w_PARENT_OVERRIDES), .val (.ref w_DENY), .val (.ref w_DENY)] [(.ref w_DENY)])) rfl (hb hby d1_62)
  obtain ⟨fs, hr, hrun, hended, hW, hsame⟩ := X2.leave (v := some (.ref w_DENY)) (fun h => by rw [Bd.returns] at h; cases h)
  refine ⟨_, _, pre0 _ ?_, hrun, hended, _, _, rfl, ?_, ⟨_, rfl⟩, hW, hsame.mono (by decide) (by decide)⟩
  · show Steps p.tables e below (s₁.setTop (mkF m 0 #[.val (.ref w_PARENT_OVERRIDES), .val (.ref w_DENY), .val (.ref w_DENY)] [])) _
    refine XS.aloadN X0.here hx rfl (hb hby d1_0) rfl rfl ?_
    show Steps p.tables e below (s₁.setTop (mkF m 1 #[.val (.ref w_PARENT_OVERRIDES), .val (.ref w_DENY), .val (.ref w_DENY)] [(.ref w_PARENT_OVERRIDES)])) _
    refine st1.trans ?_
    show Steps p.tables e below (T1.setTop (mkF m 4 #[.val (.ref w_PARENT_OVERRIDES), .val (.ref w_DENY), .val (.ref w_DENY)] [(.int 1)])) _
    refine XS.tswIn X1.here hx rfl (pc0 := 4) (pc' := 61) rfl (hb hby d1_4) rfl (by decide) (o := 57) (by decide) (by decide) (by decide) ?_
    show Steps p.tables e below (T1.setTop (mkF m 61 #[.val (.ref w_PARENT_OVERRIDES), .val (.ref w_DENY), .val (.ref w_DENY)] [])) _
    refine XS.aloadN X1.here hx rfl (hb hby d1_61) rfl rfl ?_
    show Steps p.tables e below (T1.setTop (mkF m 62 #[.val (.ref w_PARENT_OVERRIDES), .val (.ref w_DENY), .val (.ref w_DENY)] [(.ref w_DENY)])) _
    refine st2 _ ?_
    show Steps p.tables e below (T2.setTop (mkF m 65 #[.val (.ref w_PARENT_OVERRIDES), .val (.ref w_DENY), .val (.ref w_DENY)] [(.ref w_INDETERMINATE), (.ref w_DENY)])) _
    refine Jvm.RoadKit.acmp (g := (mkF m 65 #[.val (.ref w_PARENT_OVERRIDES), .val (.ref w_DENY), .val (.ref w_DENY)] [(.ref w_INDETERMINATE), (.ref w_DENY)])) X2 hx rfl rfl rfl (pc0 := 65) (pc' := 72) (same := false) rfl (hb hby d1_65) rfl (decide_eq_false fun q => n_w_DENY_w_INDETERMINATE (Value.ref.inj q)) (by decide) (by decide) ?_
    show Steps p.tables e below (T2.setTop (mkF m 72 #[.val (.ref w_PARENT_OVERRIDES), .val (.ref w_DENY), .val (.ref w_DENY)] [])) _
    refine XS.aloadN X2.here hx rfl (hb hby d1_72) rfl rfl ?_
    show Steps p.tables e below (T2.setTop (mkF m 73 #[.val (.ref w_PARENT_OVERRIDES), .val (.ref w_DENY), .val (.ref w_DENY)] [(.ref w_DENY)])) _
    refine XS.goto X2.here hx rfl (pc0 := 73) (pc' := 112) rfl (hb hby d1_73) (by decide) (by decide) ?_
    show Steps p.tables e below (T2.setTop (mkF m 112 #[.val (.ref w_PARENT_OVERRIDES), .val (.ref w_DENY), .val (.ref w_DENY)] [(.ref w_DENY)])) _
    jvm_step X2.here [X2.here.top, hx, (hb hby d1_112), X2.method', Bd.returns, Value.isRef, FieldType.isReference]
    first | (intro acts; rw [hr _ acts rfl rfl rfl]) | rw [hr _ _ rfl rfl rfl]
    exact Steps.refl _
  · show Q1_w_PARENT_OVERRIDES_w_DENY_w_DENY Z w_PARENT_OVERRIDES w_DENY w_INDETERMINATE h0 n0 _ T2.heap _
    rw [e2]
    exact ⟨rfl, N1, rfl⟩
set_option maxRecDepth 65536 in
set_option maxHeartbeats 40000000 in
theorem pc0_k111 {p : Program} {l : Launch} {e : Env} {s : State} {m : MethodId} {args : Array Value} {below : List Frame} {meth : Method} {c : Code} {T0 : State} {locs : List Loc} {Z : State} {a0 : Array Value} {h0 : Heap} {n0 : Nat} (p1 : Int32) (p2 : Int32) (p3 : Int32) (b1 : Addr) (b8 : Addr) (b15 : Addr) (k1 : ClassId) (w_CHILD_OVERRIDES : Addr) (w_PARENT_OVERRIDES : Addr) (w_AND_BOTH_PERMIT : Addr) (k8 : ClassId) (w_PERMIT : Addr) (w_DENY : Addr) (w_INDETERMINATE : Addr) (k15 : ClassId)
    (X0 : Stand p l e room_1 s m args below meth c T0 locs 3 33) (hx : p.tables.exec = Jvm.exec) (hZ : Z.Warmed39 s.vm) (hw : ∀ d ∈ tables_1, d.before a0 Z = true) (hby : c.code = code) (hml : c.maxLocals = 10) (hown : s.vm.findClass "com/example/tributary/tributary/InheritanceTypeCombinePinLaw" = some m.cls) (e0 : T0.heap = h0) (Z0 : n0 ≤ h0.size) (N0 : Fr n0 locs) (V_b1 : Arv Z h0 b1 k1 (.object "com/example/tributary/tributary/AccessList$InheritanceType") (3 : Int32) [(.ref w_CHILD_OVERRIDES), (.ref w_PARENT_OVERRIDES), (.ref w_AND_BOTH_PERMIT)] .null) (V_b8 : Arv Z h0 b8 k8 (.object "com/example/tributary/tributary/AccessList$Decision") (3 : Int32) [(.ref w_PERMIT), (.ref w_DENY), (.ref w_INDETERMINATE)] .null) (F_ordinal_w_PARENT_OVERRIDES : Fld Z h0 w_PARENT_OVERRIDES "java/lang/Enum" "ordinal" "I" (.int 1)) (E_w_PARENT_OVERRIDES : Exa Z h0 w_PARENT_OVERRIDES "com/example/tributary/tributary/AccessList$InheritanceType") (S_INDETERMINATE : Sta Z h0 "com/example/tributary/tributary/AccessList$Decision" "INDETERMINATE" "Lcom/example/tributary/tributary/AccessList$Decision;" (.ref w_INDETERMINATE)) (n_w_DENY_w_INDETERMINATE : ¬ (w_DENY = w_INDETERMINATE)) (V_b15 : Arv Z h0 b15 k15 .int (27 : Int32) [(.int 0), (.int 1), (.int 0), (.int 0), (.int 1), (.int 1), (.int 0), (.int 1), (.int 2), (.int 0), (.int 0), (.int 0), (.int 1), (.int 1), (.int 1), (.int 0), (.int 1), (.int 2), (.int 0), (.int 1), (.int 1), (.int 1), (.int 1), (.int 1), (.int 1), (.int 1), (.int 1)] (.int (0 : Int32))) :
    ∃ (T' : State) (L' : List Loc) (Ls : Array Slot), Stand p l e room_1 s m args below meth c T' L' 3 33 ∧ Fr n0 L' ∧ ∀ target, Steps p.tables e below (T'.setTop (mkF m 253 Ls [(.int 1)])) target → Steps p.tables e below (T0.setTop (mkF m 206 #[.val (.int p1), .val (.int p2), .val (.int p3), .val (.int 1), .val (.int 1), .val (.int 1), .val (.ref b1), .val (.ref b8), .val (.ref b15), .unset] [])) target := by
  obtain ⟨cq1, kq1, q1a, q1b, q1c⟩ := isOf hZ e0 E_w_PARENT_OVERRIDES
  obtain ⟨_, _, ⟨T1, L1, k1, n1⟩, -, X1, ⟨Lc1, hQ1, l1, y1, z1⟩, st1⟩ := X0.virtualBack hx (y := (⟨"com/example/tributary/tributary/AccessList$InheritanceType", "combine", "(Lcom/example/tributary/tributary/AccessList$Decision;Lcom/example/tributary/tributary/AccessList$Decision;)Lcom/example/tributary/tributary/AccessList$Decision;"⟩ : MethodName)) (z := (⟨"com/example/tributary/tributary/AccessList$InheritanceType", "combine", "(Lcom/example/tributary/tributary/AccessList$Decision;Lcom/example/tributary/tributary/AccessList$Decision;)Lcom/example/tributary/tributary/AccessList$Decision;"⟩ : MethodName)) hown (mvT hZ (hw _ (List.mem_of_getElem? (i := 22) rfl))) (mvT hZ (hw _ (List.mem_of_getElem? (i := 23) rfl))) (notFace_of_selects (args := #[]) (mvT hZ (hw _ (List.mem_of_getElem? (i := 25) rfl)))) (mvT hZ (hw _ (List.mem_of_getElem? (i := 25) rfl))) (mvT hZ (hw _ (List.mem_of_getElem? (i := 24) rfl))) (by decide) (backOf (W := 0) (rm1_w_PARENT_OVERRIDES_w_DENY_w_DENY l Z a0 hw [] w_PARENT_OVERRIDES w_DENY w_INDETERMINATE h0 n0 Z0 F_ordinal_w_PARENT_OVERRIDES E_w_PARENT_OVERRIDES S_INDETERMINATE n_w_DENY_w_INDETERMINATE) hZ (hw _ (List.mem_of_getElem? (i := 26) rfl)) (hw _ (List.mem_of_getElem? (i := 4) rfl)) (by decide) (by decide)) q1a q1c (g := (mkF m 220 #[.val (.int p1), .val (.int p2), .val (.int p3), .val (.int 1), .val (.int 1), .val (.int 1), .val (.ref b1), .val (.ref b8), .val (.ref b15), .unset] [(.ref w_DENY), (.ref w_DENY), (.ref w_PARENT_OVERRIDES)])) rfl (by rw [hml]; rfl) (Steps.refl _) (argsL := [(.ref w_DENY), (.ref w_DENY)]) (rest := []) (lenOf pd__Lcom_example_tributary_tributary_AccessList_Decision_Lcom_example_tributary_tributary_AccessList_Decision__Lcom_example_tributary_tributary_AccessList_Decision_ rfl) rfl (by show 2 * 0 + _ ≤ _; exact Nat.le_of_eq rfl) (hb hby at_220) (fun _ _ => ⟨rfl, e0, (by decide : 3 + 0 ≤ _), (by decide : 33 + 0 ≤ _)⟩)
  dsimp only [Pt.U, Pt.locs, Pt.cells, Pt.slots] at X1 l1 y1 z1 st1 hQ1
  subst l1 y1 z1
  obtain ⟨rfl, N1q, e1⟩ := hQ1
  have N1 := Fr.app N0 N1q
  refine ⟨T1, _, #[.val (.int p1), .val (.int p2), .val (.int p3), .val (.int 1), .val (.int 1), .val (.int 1), .val (.ref b1), .val (.ref b8), .val (.ref b15), .val (.ref w_DENY)], X1, N1, fun target kt => ?_⟩
  show Steps p.tables e below (T0.setTop (mkF m 206 #[.val (.int p1), .val (.int p2), .val (.int p3), .val (.int 1), .val (.int 1), .val (.int 1), .val (.ref b1), .val (.ref b8), .val (.ref b15), .unset] [])) _
  refine XS.aload X0.here hx rfl (hb hby at_206) rfl rfl ?_
  show Steps p.tables e below (T0.setTop (mkF m 208 #[.val (.int p1), .val (.int p2), .val (.int p3), .val (.int 1), .val (.int 1), .val (.int 1), .val (.ref b1), .val (.ref b8), .val (.ref b15), .unset] [(.ref b1)])) _
  refine XS.iloadN X0.here hx rfl (hb hby at_208) rfl ?_
  show Steps p.tables e below (T0.setTop (mkF m 209 #[.val (.int p1), .val (.int p2), .val (.int p3), .val (.int 1), .val (.int 1), .val (.int 1), .val (.ref b1), .val (.ref b8), .val (.ref b15), .unset] [(.int 1), (.ref b1)])) _
  refine own_ldR X0 hx hZ e0 V_b1 (j := (1 : Int32)) ⟨by decide, by decide⟩ rfl (g := (mkF m 209 #[.val (.int p1), .val (.int p2), .val (.int p3), .val (.int 1), .val (.int 1), .val (.int 1), .val (.ref b1), .val (.ref b8), .val (.ref b15), .unset] [(.int 1), (.ref b1)])) rfl rfl (hb hby at_209) _ ?_
  show Steps p.tables e below (T0.setTop (mkF m 210 #[.val (.int p1), .val (.int p2), .val (.int p3), .val (.int 1), .val (.int 1), .val (.int 1), .val (.ref b1), .val (.ref b8), .val (.ref b15), .unset] [(.ref w_PARENT_OVERRIDES)])) _
  refine XS.aload X0.here hx rfl (hb hby at_210) rfl rfl ?_
  show Steps p.tables e below (T0.setTop (mkF m 212 #[.val (.int p1), .val (.int p2), .val (.int p3), .val (.int 1), .val (.int 1), .val (.int 1), .val (.ref b1), .val (.ref b8), .val (.ref b15), .unset] [(.ref b8), (.ref w_PARENT_OVERRIDES)])) _
  refine XS.iload X0.here hx rfl (hb hby at_212) rfl ?_
  show Steps p.tables e below (T0.setTop (mkF m 214 #[.val (.int p1), .val (.int p2), .val (.int p3), .val (.int 1), .val (.int 1), .val (.int 1), .val (.ref b1), .val (.ref b8), .val (.ref b15), .unset] [(.int 1), (.ref b8), (.ref w_PARENT_OVERRIDES)])) _
  refine own_ldR X0 hx hZ e0 V_b8 (j := (1 : Int32)) ⟨by decide, by decide⟩ rfl (g := (mkF m 214 #[.val (.int p1), .val (.int p2), .val (.int p3), .val (.int 1), .val (.int 1), .val (.int 1), .val (.ref b1), .val (.ref b8), .val (.ref b15), .unset] [(.int 1), (.ref b8), (.ref w_PARENT_OVERRIDES)])) rfl rfl (hb hby at_214) _ ?_
  show Steps p.tables e below (T0.setTop (mkF m 215 #[.val (.int p1), .val (.int p2), .val (.int p3), .val (.int 1), .val (.int 1), .val (.int 1), .val (.ref b1), .val (.ref b8), .val (.ref b15), .unset] [(.ref w_DENY), (.ref w_PARENT_OVERRIDES)])) _
  refine XS.aload X0.here hx rfl (hb hby at_215) rfl rfl ?_
  show Steps p.tables e below (T0.setTop (mkF m 217 #[.val (.int p1), .val (.int p2), .val (.int p3), .val (.int 1), .val (.int 1), .val (.int 1), .val (.ref b1), .val (.ref b8), .val (.ref b15), .unset] [(.ref b8), (.ref w_DENY), (.ref w_PARENT_OVERRIDES)])) _
  refine XS.iload X0.here hx rfl (hb hby at_217) rfl ?_
  show Steps p.tables e below (T0.setTop (mkF m 219 #[.val (.int p1), .val (.int p2), .val (.int p3), .val (.int 1), .val (.int 1), .val (.int 1), .val (.ref b1), .val (.ref b8), .val (.ref b15), .unset] [(.int 1), (.ref b8), (.ref w_DENY), (.ref w_PARENT_OVERRIDES)])) _
  refine own_ldR X0 hx hZ e0 V_b8 (j := (1 : Int32)) ⟨by decide, by decide⟩ rfl (g := (mkF m 219 #[.val (.int p1), .val (.int p2), .val (.int p3), .val (.int 1), .val (.int 1), .val (.int 1), .val (.ref b1), .val (.ref b8), .val (.ref b15), .unset] [(.int 1), (.ref b8), (.ref w_DENY), (.ref w_PARENT_OVERRIDES)])) rfl rfl (hb hby at_219) _ ?_
  show Steps p.tables e below (T0.setTop (mkF m 220 #[.val (.int p1), .val (.int p2), .val (.int p3), .val (.int 1), .val (.int 1), .val (.int 1), .val (.ref b1), .val (.ref b8), .val (.ref b15), .unset] [(.ref w_DENY), (.ref w_DENY), (.ref w_PARENT_OVERRIDES)])) _
  refine st1.trans ?_
  show Steps p.tables e below (T1.setTop (mkF m 223 #[.val (.int p1), .val (.int p2), .val (.int p3), .val (.int 1), .val (.int 1), .val (.int 1), .val (.ref b1), .val (.ref b8), .val (.ref b15), .unset] [(.ref w_DENY)])) _
  refine XS.astore X1.here hx rfl (hb hby at_223) rfl rfl (l' := #[.val (.int p1), .val (.int p2), .val (.int p3), .val (.int 1), .val (.int 1), .val (.int 1), .val (.ref b1), .val (.ref b8), .val (.ref b15), .val (.ref w_DENY)]) rfl ?_
  show Steps p.tables e below (T1.setTop (mkF m 225 #[.val (.int p1), .val (.int p2), .val (.int p3), .val (.int 1), .val (.int 1), .val (.int 1), .val (.ref b1), .val (.ref b8), .val (.ref b15), .val (.ref w_DENY)] [])) _
  refine XS.aload X1.here hx rfl (hb hby at_225) rfl rfl ?_
  show Steps p.tables e below (T1.setTop (mkF m 227 #[.val (.int p1), .val (.int p2), .val (.int p3), .val (.int 1), .val (.int 1), .val (.int 1), .val (.ref b1), .val (.ref b8), .val (.ref b15), .val (.ref w_DENY)] [(.ref w_DENY)])) _
  refine XS.aload X1.here hx rfl (hb hby at_227) rfl rfl ?_
  show Steps p.tables e below (T1.setTop (mkF m 229 #[.val (.int p1), .val (.int p2), .val (.int p3), .val (.int 1), .val (.int 1), .val (.int 1), .val (.ref b1), .val (.ref b8), .val (.ref b15), .val (.ref w_DENY)] [(.ref b8), (.ref w_DENY)])) _
  refine XS.aload X1.here hx rfl (hb hby at_229) rfl rfl ?_
  show Steps p.tables e below (T1.setTop (mkF m 231 #[.val (.int p1), .val (.int p2), .val (.int p3), .val (.int 1), .val (.int 1), .val (.int 1), .val (.ref b1), .val (.ref b8), .val (.ref b15), .val (.ref w_DENY)] [(.ref b15), (.ref b8), (.ref w_DENY)])) _
  refine XS.iloadN X1.here hx rfl (hb hby at_231) rfl ?_
  show Steps p.tables e below (T1.setTop (mkF m 232 #[.val (.int p1), .val (.int p2), .val (.int p3), .val (.int 1), .val (.int 1), .val (.int 1), .val (.ref b1), .val (.ref b8), .val (.ref b15), .val (.ref w_DENY)] [(.int 1), (.ref b15), (.ref b8), (.ref w_DENY)])) _
  refine XS.bipush X1.here hx rfl (hb hby at_232) ?_
  show Steps p.tables e below (T1.setTop (mkF m 234 #[.val (.int p1), .val (.int p2), .val (.int p3), .val (.int 1), .val (.int 1), .val (.int 1), .val (.ref b1), .val (.ref b8), .val (.ref b15), .val (.ref w_DENY)] [(.int 9), (.int 1), (.ref b15), (.ref b8), (.ref w_DENY)])) _
  refine XS.imul X1.here hx rfl (hb hby at_234) rfl ?_
  show Steps p.tables e below (T1.setTop (mkF m 235 #[.val (.int p1), .val (.int p2), .val (.int p3), .val (.int 1), .val (.int 1), .val (.int 1), .val (.ref b1), .val (.ref b8), .val (.ref b15), .val (.ref w_DENY)] [(.int ((1 : Int32) * (9 : Int32))), (.ref b15), (.ref b8), (.ref w_DENY)])) _
  rw [(by decide : ((1 : Int32) * (9 : Int32)) = (9 : Int32))]
  show Steps p.tables e below (T1.setTop (mkF m 235 #[.val (.int p1), .val (.int p2), .val (.int p3), .val (.int 1), .val (.int 1), .val (.int 1), .val (.ref b1), .val (.ref b8), .val (.ref b15), .val (.ref w_DENY)] [(.int 9), (.ref b15), (.ref b8), (.ref w_DENY)])) _
  refine XS.iload X1.here hx rfl (hb hby at_235) rfl ?_
  show Steps p.tables e below (T1.setTop (mkF m 237 #[.val (.int p1), .val (.int p2), .val (.int p3), .val (.int 1), .val (.int 1), .val (.int 1), .val (.ref b1), .val (.ref b8), .val (.ref b15), .val (.ref w_DENY)] [(.int 1), (.int 9), (.ref b15), (.ref b8), (.ref w_DENY)])) _
  refine XS.iconst X1.here hx rfl (hb hby at_237) ?_
  show Steps p.tables e below (T1.setTop (mkF m 238 #[.val (.int p1), .val (.int p2), .val (.int p3), .val (.int 1), .val (.int 1), .val (.int 1), .val (.ref b1), .val (.ref b8), .val (.ref b15), .val (.ref w_DENY)] [(.int 3), (.int 1), (.int 9), (.ref b15), (.ref b8), (.ref w_DENY)])) _
  refine XS.imul X1.here hx rfl (hb hby at_238) rfl ?_
  show Steps p.tables e below (T1.setTop (mkF m 239 #[.val (.int p1), .val (.int p2), .val (.int p3), .val (.int 1), .val (.int 1), .val (.int 1), .val (.ref b1), .val (.ref b8), .val (.ref b15), .val (.ref w_DENY)] [(.int ((1 : Int32) * (3 : Int32))), (.int 9), (.ref b15), (.ref b8), (.ref w_DENY)])) _
  rw [(by decide : ((1 : Int32) * (3 : Int32)) = (3 : Int32))]
  show Steps p.tables e below (T1.setTop (mkF m 239 #[.val (.int p1), .val (.int p2), .val (.int p3), .val (.int 1), .val (.int 1), .val (.int 1), .val (.ref b1), .val (.ref b8), .val (.ref b15), .val (.ref w_DENY)] [(.int 3), (.int 9), (.ref b15), (.ref b8), (.ref w_DENY)])) _
  refine XS.iadd X1.here hx rfl (hb hby at_239) rfl ?_
  show Steps p.tables e below (T1.setTop (mkF m 240 #[.val (.int p1), .val (.int p2), .val (.int p3), .val (.int 1), .val (.int 1), .val (.int 1), .val (.ref b1), .val (.ref b8), .val (.ref b15), .val (.ref w_DENY)] [(.int ((9 : Int32) + (3 : Int32))), (.ref b15), (.ref b8), (.ref w_DENY)])) _
  rw [(by decide : ((9 : Int32) + (3 : Int32)) = (12 : Int32))]
  show Steps p.tables e below (T1.setTop (mkF m 240 #[.val (.int p1), .val (.int p2), .val (.int p3), .val (.int 1), .val (.int 1), .val (.int 1), .val (.ref b1), .val (.ref b8), .val (.ref b15), .val (.ref w_DENY)] [(.int 12), (.ref b15), (.ref b8), (.ref w_DENY)])) _
  refine XS.iload X1.here hx rfl (hb hby at_240) rfl ?_
  show Steps p.tables e below (T1.setTop (mkF m 242 #[.val (.int p1), .val (.int p2), .val (.int p3), .val (.int 1), .val (.int 1), .val (.int 1), .val (.ref b1), .val (.ref b8), .val (.ref b15), .val (.ref w_DENY)] [(.int 1), (.int 12), (.ref b15), (.ref b8), (.ref w_DENY)])) _
  refine XS.iadd X1.here hx rfl (hb hby at_242) rfl ?_
  show Steps p.tables e below (T1.setTop (mkF m 243 #[.val (.int p1), .val (.int p2), .val (.int p3), .val (.int 1), .val (.int 1), .val (.int 1), .val (.ref b1), .val (.ref b8), .val (.ref b15), .val (.ref w_DENY)] [(.int ((12 : Int32) + (1 : Int32))), (.ref b15), (.ref b8), (.ref w_DENY)])) _
  rw [(by decide : ((12 : Int32) + (1 : Int32)) = (13 : Int32))]
  show Steps p.tables e below (T1.setTop (mkF m 243 #[.val (.int p1), .val (.int p2), .val (.int p3), .val (.int 1), .val (.int 1), .val (.int 1), .val (.ref b1), .val (.ref b8), .val (.ref b15), .val (.ref w_DENY)] [(.int 13), (.ref b15), (.ref b8), (.ref w_DENY)])) _
  refine own_ldI X1 hx hZ e1 V_b15 (j := (13 : Int32)) ⟨by decide, by decide⟩ rfl (g := (mkF m 243 #[.val (.int p1), .val (.int p2), .val (.int p3), .val (.int 1), .val (.int 1), .val (.int 1), .val (.ref b1), .val (.ref b8), .val (.ref b15), .val (.ref w_DENY)] [(.int 13), (.ref b15), (.ref b8), (.ref w_DENY)])) rfl rfl (hb hby at_243) _ ?_
  show Steps p.tables e below (T1.setTop (mkF m 244 #[.val (.int p1), .val (.int p2), .val (.int p3), .val (.int 1), .val (.int 1), .val (.int 1), .val (.ref b1), .val (.ref b8), .val (.ref b15), .val (.ref w_DENY)] [(.int 1), (.ref b8), (.ref w_DENY)])) _
  refine own_ldR X1 hx hZ e1 V_b8 (j := (1 : Int32)) ⟨by decide, by decide⟩ rfl (g := (mkF m 244 #[.val (.int p1), .val (.int p2), .val (.int p3), .val (.int 1), .val (.int 1), .val (.int 1), .val (.ref b1), .val (.ref b8), .val (.ref b15), .val (.ref w_DENY)] [(.int 1), (.ref b8), (.ref w_DENY)])) rfl rfl (hb hby at_244) _ ?_
  show Steps p.tables e below (T1.setTop (mkF m 245 #[.val (.int p1), .val (.int p2), .val (.int p3), .val (.int 1), .val (.int 1), .val (.int 1), .val (.ref b1), .val (.ref b8), .val (.ref b15), .val (.ref w_DENY)] [(.ref w_DENY), (.ref w_DENY)])) _
  refine Jvm.RoadKit.acmp (g := (mkF m 245 #[.val (.int p1), .val (.int p2), .val (.int p3), .val (.int 1), .val (.int 1), .val (.int 1), .val (.ref b1), .val (.ref b8), .val (.ref b15), .val (.ref w_DENY)] [(.ref w_DENY), (.ref w_DENY)])) X1 hx rfl rfl rfl (pc0 := 245) (pc' := 248) (same := true) rfl (hb hby at_245) rfl (decide_eq_true rfl) (by decide) (by decide) ?_
  show Steps p.tables e below (T1.setTop (mkF m 248 #[.val (.int p1), .val (.int p2), .val (.int p3), .val (.int 1), .val (.int 1), .val (.int 1), .val (.ref b1), .val (.ref b8), .val (.ref b15), .val (.ref w_DENY)] [])) _
  refine XS.iconst X1.here hx rfl (hb hby at_248) ?_
  show Steps p.tables e below (T1.setTop (mkF m 249 #[.val (.int p1), .val (.int p2), .val (.int p3), .val (.int 1), .val (.int 1), .val (.int 1), .val (.ref b1), .val (.ref b8), .val (.ref b15), .val (.ref w_DENY)] [(.int 1)])) _
  refine XS.goto X1.here hx rfl (pc0 := 249) (pc' := 253) rfl (hb hby at_249) (by decide) (by decide) ?_
  show Steps p.tables e below (T1.setTop (mkF m 253 #[.val (.int p1), .val (.int p2), .val (.int p3), .val (.int 1), .val (.int 1), .val (.int 1), .val (.ref b1), .val (.ref b8), .val (.ref b15), .val (.ref w_DENY)] [(.int 1)])) _
  exact kt
def Q1_w_PARENT_OVERRIDES_w_DENY_w_INDETERMINATE (Z : State) (w_PARENT_OVERRIDES : Addr) (w_DENY : Addr) (w_INDETERMINATE : Addr) (h0 : Heap) (n0 : Nat) (v : Option Value) (h : Heap) (L : List Loc) : Prop := v = some (.ref w_DENY) ∧ Fr n0 L ∧ h = h0
set_option maxRecDepth 65536 in
set_option maxHeartbeats 40000000 in
theorem rm1_w_PARENT_OVERRIDES_w_DENY_w_INDETERMINATE (l : Launch) (Z : State) (a0 : Array Value) (hw : ∀ d ∈ tables_1, d.before a0 Z = true) (ws : List Jvm.Cond) (w_PARENT_OVERRIDES : Addr) (w_DENY : Addr) (w_INDETERMINATE : Addr) (h0 : Heap) (n0 : Nat) (Z0 : n0 ≤ h0.size) (F_ordinal_w_PARENT_OVERRIDES : Fld Z h0 w_PARENT_OVERRIDES "java/lang/Enum" "ordinal" "I" (.int 1)) (E_w_PARENT_OVERRIDES : Exa Z h0 w_PARENT_OVERRIDES "com/example/tributary/tributary/AccessList$InheritanceType") (S_INDETERMINATE : Sta Z h0 "com/example/tributary/tributary/AccessList$Decision" "INDETERMINATE" "Lcom/example/tributary/tributary/AccessList$Decision;" (.ref w_INDETERMINATE)) (n_w_DENY_w_INDETERMINATE : ¬ (w_DENY = w_INDETERMINATE)) :
    MetFree l (⟨"com/example/tributary/tributary/AccessList$InheritanceType", "combine", "(Lcom/example/tributary/tributary/AccessList$Decision;Lcom/example/tributary/tributary/AccessList$Decision;)Lcom/example/tributary/tributary/AccessList$Decision;"⟩ : MethodName) (head1 (Jvm.Cond.code (⟨"com/example/tributary/tributary/AccessList$InheritanceType", "combine", "(Lcom/example/tributary/tributary/AccessList$Decision;Lcom/example/tributary/tributary/AccessList$Decision;)Lcom/example/tributary/tributary/AccessList$Decision;"⟩ : MethodName) prog_6_method_4_code 3 (some (.object "com/example/tributary/tributary/AccessList$Decision")) :: ws) ({ frames := 1, cells := 0, slots := 0, locals := 12 } : Room)) (fun a U => a = #[(.ref w_PARENT_OVERRIDES), (.ref w_DENY), (.ref w_INDETERMINATE)] ∧ Z.Warmed39 U.vm ∧ U.heap = h0) (fun _ _ _ _ _ => True) (fun _ U o U' => ∃ v L, o = .returned v ∧ Q1_w_PARENT_OVERRIDES_w_DENY_w_INDETERMINATE Z w_PARENT_OVERRIDES w_DENY w_INDETERMINATE h0 n0 v U'.heap L ∧ FrameEnd U o U' L ({ frames := 1, cells := 0, slots := 0, locals := 12 } : Room).cells ({ frames := 1, cells := 0, slots := 0, locals := 12 } : Room).slots) := by
  refine MetFree.of_bodySF (plainFor_of_name pn_1) hisR ?_
  intro p e s m args below meth c s₁ Bd hml0 hP hK
  obtain ⟨rfl, hZ, hh⟩ := hP
  have hx := Bd.exec
  have hby := Bd.bytes
  have hml : c.maxLocals = 3 := hml0
  have hown : s.vm.findClass "com/example/tributary/tributary/AccessList$InheritanceType" = some m.cls := findClass_of_methodNamed Bd.named
  have hnm := (name_of_methodNamed Bd.named Bd.method).1
  have X0 : Stand p l e ({ frames := 1, cells := 0, slots := 0, locals := 12 } : Room) s m #[(.ref w_PARENT_OVERRIDES), (.ref w_DENY), (.ref w_INDETERMINATE)] below meth c s₁ [] 0 0 := Stand.of_body Bd
  have e0 : s₁.heap = h0 := by rw [← hh, Bd.state]; rfl
  have N0 := Fr.nil n0
  have pre0 : ∀ t, Steps p.tables e below (s₁.setTop (mkF m 0 #[.val (.ref w_PARENT_OVERRIDES), .val (.ref w_DENY), .val (.ref w_INDETERMINATE)] [])) t → Steps p.tables e below (s₁.setTop (entryFrame m #[(.ref w_PARENT_OVERRIDES), (.ref w_DENY), (.ref w_INDETERMINATE)] 3)) t := fun t k => castTop (by first | (simp [entryFrame, mkF, argsToLocals, Value.category]; done) | rfl) k
  obtain ⟨cq1, kq1, q1a, q1b, q1c⟩ := isOf hZ e0 E_w_PARENT_OVERRIDES
  obtain ⟨_, _, ⟨T1, L1, k1, n1⟩, -, X1, ⟨Lc1, hQ1, l1, y1, z1⟩, st1⟩ := X0.virtualBackUp hx (x := (⟨"com/example/tributary/tributary/AccessList$InheritanceType", "ordinal", "()I"⟩ : MethodName)) (y := (⟨"java/lang/Enum", "ordinal", "()I"⟩ : MethodName)) (owner := "java/lang/Enum") hown (mvT hZ (hw _ (List.mem_of_getElem? (i := 27) rfl))) (mvT hZ (hw _ (List.mem_of_getElem? (i := 28) rfl))) (mvT hZ (hw _ (List.mem_of_getElem? (i := 29) rfl))) (by decide) (mvT hZ (hw _ (List.mem_of_getElem? (i := 31) rfl))) (mvT hZ (hw _ (List.mem_of_getElem? (i := 30) rfl))) (backOf (W := 0) (rm2_w_PARENT_OVERRIDES l Z a0 hw [] w_PARENT_OVERRIDES h0 n0 Z0 F_ordinal_w_PARENT_OVERRIDES) hZ (hw _ (List.mem_of_getElem? (i := 33) rfl)) (hw _ (List.mem_of_getElem? (i := 32) rfl)) (by decide) (by decide)) q1a q1c (g := (mkF m 1 #[.val (.ref w_PARENT_OVERRIDES), .val (.ref w_DENY), .val (.ref w_INDETERMINATE)] [(.ref w_PARENT_OVERRIDES)])) rfl (by rw [hml]; rfl) (Steps.refl _) (argsL := []) (rest := []) (lenOf pd___I rfl) rfl (by show 2 * 0 + _ ≤ _; exact Nat.le_of_eq rfl) (hb hby d1_1) (fun _ _ => ⟨rfl, e0, (by decide : 0 + 0 ≤ _), (by decide : 0 + 0 ≤ _)⟩)
  dsimp only [Pt.U, Pt.locs, Pt.cells, Pt.slots] at X1 l1 y1 z1 st1 hQ1
  subst l1 y1 z1
  obtain ⟨rfl, N1q, e1⟩ := hQ1
  have N1 := Fr.app N0 N1q
  obtain ⟨T2, X2, e2, st2⟩ := getS2 X1 hx hZ hown (host := "") (Or.inl (hw _ (List.mem_of_getElem? (i := 36) rfl))) Via.refl e1 S_INDETERMINATE (g := (mkF m 62 #[.val (.ref w_PARENT_OVERRIDES), .val (.ref w_DENY), .val (.ref w_INDETERMINATE)] [(.ref w_DENY)])) rfl (hb hby d1_62)
  obtain ⟨fs, hr, hrun, hended, hW, hsame⟩ := X2.leave (v := some (.ref w_DENY)) (fun h => by rw [Bd.returns] at h; cases h)
  refine ⟨_, _, pre0 _ ?_, hrun, hended, _, _, rfl, ?_, ⟨_, rfl⟩, hW, hsame.mono (by decide) (by decide)⟩
  · show Steps p.tables e below (s₁.setTop (mkF m 0 #[.val (.ref w_PARENT_OVERRIDES), .val (.ref w_DENY), .val (.ref w_INDETERMINATE)] [])) _
    refine XS.aloadN X0.here hx rfl (hb hby d1_0) rfl rfl ?_
    show Steps p.tables e below (s₁.setTop (mkF m 1 #[.val (.ref w_PARENT_OVERRIDES), .val (.ref w_DENY), .val (.ref w_INDETERMINATE)] [(.ref w_PARENT_OVERRIDES)])) _
    refine st1.trans ?_
    show Steps p.tables e below (T1.setTop (mkF m 4 #[.val (.ref w_PARENT_OVERRIDES), .val (.ref w_DENY), .val (.ref w_INDETERMINATE)] [(.int 1)])) _
    refine XS.tswIn X1.here hx rfl (pc0 := 4) (pc' := 61) rfl (hb hby d1_4) rfl (by decide) (o := 57) (by decide) (by decide) (by decide) ?_
    show Steps p.tables e below (T1.setTop (mkF m 61 #[.val (.ref w_PARENT_OVERRIDES), .val (.ref w_DENY), .val (.ref w_INDETERMINATE)] [])) _
    refine XS.aloadN X1.here hx rfl (hb hby d1_61) rfl rfl ?_
    show Steps p.tables e below (T1.setTop (mkF m 62 #[.val (.ref w_PARENT_OVERRIDES), .val (.ref w_DENY), .val (.ref w_INDETERMINATE)] [(.ref w_DENY)])) _
    refine st2 _ ?_
    show Steps p.tables e below (T2.setTop (mkF m 65 #[.val (.ref w_PARENT_OVERRIDES), .val (.ref w_DENY), .val (.ref w_INDETERMINATE)] [(.ref w_INDETERMINATE), (.ref w_DENY)])) _
    refine Jvm.RoadKit.acmp (g := (mkF m 65 #[.val (.ref w_PARENT_OVERRIDES), .val (.ref w_DENY), .val (.ref w_INDETERMINATE)] [(.ref w_INDETERMINATE), (.ref w_DENY)])) X2 hx rfl rfl rfl (pc0 := 65) (pc' := 72) (same := false) rfl (hb hby d1_65) rfl (decide_eq_false fun q => n_w_DENY_w_INDETERMINATE (Value.ref.inj q)) (by decide) (by decide) ?_
    show Steps p.tables e below (T2.setTop (mkF m 72 #[.val (.ref w_PARENT_OVERRIDES), .val (.ref w_DENY), .val (.ref w_INDETERMINATE)] [])) _
    refine XS.aloadN X2.here hx rfl (hb hby d1_72) rfl rfl ?_
    show Steps p.tables e below (T2.setTop (mkF m 73 #[.val (.ref w_PARENT_OVERRIDES), .val (.ref w_DENY), .val (.ref w_INDETERMINATE)] [(.ref w_DENY)])) _
    refine XS.goto X2.here hx rfl (pc0 := 73) (pc' := 112) rfl (hb hby d1_73) (by decide) (by decide) ?_
    show Steps p.tables e below (T2.setTop (mkF m 112 #[.val (.ref w_PARENT_OVERRIDES), .val (.ref w_DENY), .val (.ref w_INDETERMINATE)] [(.ref w_DENY)])) _
    jvm_step X2.here [X2.here.top, hx, (hb hby d1_112), X2.method', Bd.returns, Value.isRef, FieldType.isReference]
    first | (intro acts; rw [hr _ acts rfl rfl rfl]) | rw [hr _ _ rfl rfl rfl]
    exact Steps.refl _
  · show Q1_w_PARENT_OVERRIDES_w_DENY_w_INDETERMINATE Z w_PARENT_OVERRIDES w_DENY w_INDETERMINATE h0 n0 _ T2.heap _
    rw [e2]
    exact ⟨rfl, N1, rfl⟩
set_option maxRecDepth 65536 in
set_option maxHeartbeats 40000000 in
theorem pc0_k112 {p : Program} {l : Launch} {e : Env} {s : State} {m : MethodId} {args : Array Value} {below : List Frame} {meth : Method} {c : Code} {T0 : State} {locs : List Loc} {Z : State} {a0 : Array Value} {h0 : Heap} {n0 : Nat} (p1 : Int32) (p2 : Int32) (p3 : Int32) (b1 : Addr) (b8 : Addr) (b15 : Addr) (k1 : ClassId) (w_CHILD_OVERRIDES : Addr) (w_PARENT_OVERRIDES : Addr) (w_AND_BOTH_PERMIT : Addr) (k8 : ClassId) (w_PERMIT : Addr) (w_DENY : Addr) (w_INDETERMINATE : Addr) (k15 : ClassId)
    (X0 : Stand p l e room_1 s m args below meth c T0 locs 3 33) (hx : p.tables.exec = Jvm.exec) (hZ : Z.Warmed39 s.vm) (hw : ∀ d ∈ tables_1, d.before a0 Z = true) (hby : c.code = code) (hml : c.maxLocals = 10) (hown : s.vm.findClass "com/example/tributary/tributary/InheritanceTypeCombinePinLaw" = some m.cls) (e0 : T0.heap = h0) (Z0 : n0 ≤ h0.size) (N0 : Fr n0 locs) (V_b1 : Arv Z h0 b1 k1 (.object "com/example/tributary/tributary/AccessList$InheritanceType") (3 : Int32) [(.ref w_CHILD_OVERRIDES), (.ref w_PARENT_OVERRIDES), (.ref w_AND_BOTH_PERMIT)] .null) (V_b8 : Arv Z h0 b8 k8 (.object "com/example/tributary/tributary/AccessList$Decision") (3 : Int32) [(.ref w_PERMIT), (.ref w_DENY), (.ref w_INDETERMINATE)] .null) (F_ordinal_w_PARENT_OVERRIDES : Fld Z h0 w_PARENT_OVERRIDES "java/lang/Enum" "ordinal" "I" (.int 1)) (E_w_PARENT_OVERRIDES : Exa Z h0 w_PARENT_OVERRIDES "com/example/tributary/tributary/AccessList$InheritanceType") (S_INDETERMINATE : Sta Z h0 "com/example/tributary/tributary/AccessList$Decision" "INDETERMINATE" "Lcom/example/tributary/tributary/AccessList$Decision;" (.ref w_INDETERMINATE)) (n_w_DENY_w_INDETERMINATE : ¬ (w_DENY = w_INDETERMINATE)) (V_b15 : Arv Z h0 b15 k15 .int (27 : Int32) [(.int 0), (.int 1), (.int 0), (.int 0), (.int 1), (.int 1), (.int 0), (.int 1), (.int 2), (.int 0), (.int 0), (.int 0), (.int 1), (.int 1), (.int 1), (.int 0), (.int 1), (.int 2), (.int 0), (.int 1), (.int 1), (.int 1), (.int 1), (.int 1), (.int 1), (.int 1), (.int 1)] (.int (0 : Int32))) :
    ∃ (T' : State) (L' : List Loc) (Ls : Array Slot), Stand p l e room_1 s m args below meth c T' L' 3 33 ∧ Fr n0 L' ∧ ∀ target, Steps p.tables e below (T'.setTop (mkF m 253 Ls [(.int 1)])) target → Steps p.tables e below (T0.setTop (mkF m 206 #[.val (.int p1), .val (.int p2), .val (.int p3), .val (.int 1), .val (.int 1), .val (.int 2), .val (.ref b1), .val (.ref b8), .val (.ref b15), .unset] [])) target := by
  obtain ⟨cq1, kq1, q1a, q1b, q1c⟩ := isOf hZ e0 E_w_PARENT_OVERRIDES
  obtain ⟨_, _, ⟨T1, L1, k1, n1⟩, -, X1, ⟨Lc1, hQ1, l1, y1, z1⟩, st1⟩ := X0.virtualBack hx (y := (⟨"com/example/tributary/tributary/AccessList$InheritanceType", "combine", "(Lcom/example/tributary/tributary/AccessList$Decision;Lcom/example/tributary/tributary/AccessList$Decision;)Lcom/example/tributary/tributary/AccessList$Decision;"⟩ : MethodName)) (z := (⟨"com/example/tributary/tributary/AccessList$InheritanceType", "combine", "(Lcom/example/tributary/tributary/AccessList$Decision;Lcom/example/tributary/tributary/AccessList$Decision;)Lcom/example/tributary/tributary/AccessList$Decision;"⟩ : MethodName)) hown (mvT hZ (hw _ (List.mem_of_getElem? (i := 22) rfl))) (mvT hZ (hw _ (List.mem_of_getElem? (i := 23) rfl))) (notFace_of_selects (args := #[]) (mvT hZ (hw _ (List.mem_of_getElem? (i := 25) rfl)))) (mvT hZ (hw _ (List.mem_of_getElem? (i := 25) rfl))) (mvT hZ (hw _ (List.mem_of_getElem? (i := 24) rfl))) (by decide) (backOf (W := 0) (rm1_w_PARENT_OVERRIDES_w_DENY_w_INDETERMINATE l Z a0 hw [] w_PARENT_OVERRIDES w_DENY w_INDETERMINATE h0 n0 Z0 F_ordinal_w_PARENT_OVERRIDES E_w_PARENT_OVERRIDES S_INDETERMINATE n_w_DENY_w_INDETERMINATE) hZ (hw _ (List.mem_of_getElem? (i := 26) rfl)) (hw _ (List.mem_of_getElem? (i := 4) rfl)) (by decide) (by decide)) q1a q1c (g := (mkF m 220 #[.val (.int p1), .val (.int p2), .val (.int p3), .val (.int 1), .val (.int 1), .val (.int 2), .val (.ref b1), .val (.ref b8), .val (.ref b15), .unset] [(.ref w_INDETERMINATE), (.ref w_DENY), (.ref w_PARENT_OVERRIDES)])) rfl (by rw [hml]; rfl) (Steps.refl _) (argsL := [(.ref w_DENY), (.ref w_INDETERMINATE)]) (rest := []) (lenOf pd__Lcom_example_tributary_tributary_AccessList_Decision_Lcom_example_tributary_tributary_AccessList_Decision__Lcom_example_tributary_tributary_AccessList_Decision_ rfl) rfl (by show 2 * 0 + _ ≤ _; exact Nat.le_of_eq rfl) (hb hby at_220) (fun _ _ => ⟨rfl, e0, (by decide : 3 + 0 ≤ _), (by decide : 33 + 0 ≤ _)⟩)
  dsimp only [Pt.U, Pt.locs, Pt.cells, Pt.slots] at X1 l1 y1 z1 st1 hQ1
  subst l1 y1 z1
  obtain ⟨rfl, N1q, e1⟩ := hQ1
  have N1 := Fr.app N0 N1q
  refine ⟨T1, _, #[.val (.int p1), .val (.int p2), .val (.int p3), .val (.int 1), .val (.int 1), .val (.int 2), .val (.ref b1), .val (.ref b8), .val (.ref b15), .val (.ref w_DENY)], X1, N1, fun target kt => ?_⟩
  show Steps p.tables e below (T0.setTop (mkF m 206 #[.val (.int p1), .val (.int p2), .val (.int p3), .val (.int 1), .val (.int 1), .val (.int 2), .val (.ref b1), .val (.ref b8), .val (.ref b15), .unset] [])) _
  refine XS.aload X0.here hx rfl (hb hby at_206) rfl rfl ?_
  show Steps p.tables e below (T0.setTop (mkF m 208 #[.val (.int p1), .val (.int p2), .val (.int p3), .val (.int 1), .val (.int 1), .val (.int 2), .val (.ref b1), .val (.ref b8), .val (.ref b15), .unset] [(.ref b1)])) _
  refine XS.iloadN X0.here hx rfl (hb hby at_208) rfl ?_
  show Steps p.tables e below (T0.setTop (mkF m 209 #[.val (.int p1), .val (.int p2), .val (.int p3), .val (.int 1), .val (.int 1), .val (.int 2), .val (.ref b1), .val (.ref b8), .val (.ref b15), .unset] [(.int 1), (.ref b1)])) _
  refine own_ldR X0 hx hZ e0 V_b1 (j := (1 : Int32)) ⟨by decide, by decide⟩ rfl (g := (mkF m 209 #[.val (.int p1), .val (.int p2), .val (.int p3), .val (.int 1), .val (.int 1), .val (.int 2), .val (.ref b1), .val (.ref b8), .val (.ref b15), .unset] [(.int 1), (.ref b1)])) rfl rfl (hb hby at_209) _ ?_
  show Steps p.tables e below (T0.setTop (mkF m 210 #[.val (.int p1), .val (.int p2), .val (.int p3), .val (.int 1), .val (.int 1), .val (.int 2), .val (.ref b1), .val (.ref b8), .val (.ref b15), .unset] [(.ref w_PARENT_OVERRIDES)])) _
  refine XS.aload X0.here hx rfl (hb hby at_210) rfl rfl ?_
  show Steps p.tables e below (T0.setTop (mkF m 212 #[.val (.int p1), .val (.int p2), .val (.int p3), .val (.int 1), .val (.int 1), .val (.int 2), .val (.ref b1), .val (.ref b8), .val (.ref b15), .unset] [(.ref b8), (.ref w_PARENT_OVERRIDES)])) _
  refine XS.iload X0.here hx rfl (hb hby at_212) rfl ?_
  show Steps p.tables e below (T0.setTop (mkF m 214 #[.val (.int p1), .val (.int p2), .val (.int p3), .val (.int 1), .val (.int 1), .val (.int 2), .val (.ref b1), .val (.ref b8), .val (.ref b15), .unset] [(.int 1), (.ref b8), (.ref w_PARENT_OVERRIDES)])) _
  refine own_ldR X0 hx hZ e0 V_b8 (j := (1 : Int32)) ⟨by decide, by decide⟩ rfl (g := (mkF m 214 #[.val (.int p1), .val (.int p2), .val (.int p3), .val (.int 1), .val (.int 1), .val (.int 2), .val (.ref b1), .val (.ref b8), .val (.ref b15), .unset] [(.int 1), (.ref b8), (.ref w_PARENT_OVERRIDES)])) rfl rfl (hb hby at_214) _ ?_
  show Steps p.tables e below (T0.setTop (mkF m 215 #[.val (.int p1), .val (.int p2), .val (.int p3), .val (.int 1), .val (.int 1), .val (.int 2), .val (.ref b1), .val (.ref b8), .val (.ref b15), .unset] [(.ref w_DENY), (.ref w_PARENT_OVERRIDES)])) _
  refine XS.aload X0.here hx rfl (hb hby at_215) rfl rfl ?_
  show Steps p.tables e below (T0.setTop (mkF m 217 #[.val (.int p1), .val (.int p2), .val (.int p3), .val (.int 1), .val (.int 1), .val (.int 2), .val (.ref b1), .val (.ref b8), .val (.ref b15), .unset] [(.ref b8), (.ref w_DENY), (.ref w_PARENT_OVERRIDES)])) _
  refine XS.iload X0.here hx rfl (hb hby at_217) rfl ?_
  show Steps p.tables e below (T0.setTop (mkF m 219 #[.val (.int p1), .val (.int p2), .val (.int p3), .val (.int 1), .val (.int 1), .val (.int 2), .val (.ref b1), .val (.ref b8), .val (.ref b15), .unset] [(.int 2), (.ref b8), (.ref w_DENY), (.ref w_PARENT_OVERRIDES)])) _
  refine own_ldR X0 hx hZ e0 V_b8 (j := (2 : Int32)) ⟨by decide, by decide⟩ rfl (g := (mkF m 219 #[.val (.int p1), .val (.int p2), .val (.int p3), .val (.int 1), .val (.int 1), .val (.int 2), .val (.ref b1), .val (.ref b8), .val (.ref b15), .unset] [(.int 2), (.ref b8), (.ref w_DENY), (.ref w_PARENT_OVERRIDES)])) rfl rfl (hb hby at_219) _ ?_
  show Steps p.tables e below (T0.setTop (mkF m 220 #[.val (.int p1), .val (.int p2), .val (.int p3), .val (.int 1), .val (.int 1), .val (.int 2), .val (.ref b1), .val (.ref b8), .val (.ref b15), .unset] [(.ref w_INDETERMINATE), (.ref w_DENY), (.ref w_PARENT_OVERRIDES)])) _
  refine st1.trans ?_
  show Steps p.tables e below (T1.setTop (mkF m 223 #[.val (.int p1), .val (.int p2), .val (.int p3), .val (.int 1), .val (.int 1), .val (.int 2), .val (.ref b1), .val (.ref b8), .val (.ref b15), .unset] [(.ref w_DENY)])) _
  refine XS.astore X1.here hx rfl (hb hby at_223) rfl rfl (l' := #[.val (.int p1), .val (.int p2), .val (.int p3), .val (.int 1), .val (.int 1), .val (.int 2), .val (.ref b1), .val (.ref b8), .val (.ref b15), .val (.ref w_DENY)]) rfl ?_
  show Steps p.tables e below (T1.setTop (mkF m 225 #[.val (.int p1), .val (.int p2), .val (.int p3), .val (.int 1), .val (.int 1), .val (.int 2), .val (.ref b1), .val (.ref b8), .val (.ref b15), .val (.ref w_DENY)] [])) _
  refine XS.aload X1.here hx rfl (hb hby at_225) rfl rfl ?_
  show Steps p.tables e below (T1.setTop (mkF m 227 #[.val (.int p1), .val (.int p2), .val (.int p3), .val (.int 1), .val (.int 1), .val (.int 2), .val (.ref b1), .val (.ref b8), .val (.ref b15), .val (.ref w_DENY)] [(.ref w_DENY)])) _
  refine XS.aload X1.here hx rfl (hb hby at_227) rfl rfl ?_
  show Steps p.tables e below (T1.setTop (mkF m 229 #[.val (.int p1), .val (.int p2), .val (.int p3), .val (.int 1), .val (.int 1), .val (.int 2), .val (.ref b1), .val (.ref b8), .val (.ref b15), .val (.ref w_DENY)] [(.ref b8), (.ref w_DENY)])) _
  refine XS.aload X1.here hx rfl (hb hby at_229) rfl rfl ?_
  show Steps p.tables e below (T1.setTop (mkF m 231 #[.val (.int p1), .val (.int p2), .val (.int p3), .val (.int 1), .val (.int 1), .val (.int 2), .val (.ref b1), .val (.ref b8), .val (.ref b15), .val (.ref w_DENY)] [(.ref b15), (.ref b8), (.ref w_DENY)])) _
  refine XS.iloadN X1.here hx rfl (hb hby at_231) rfl ?_
  show Steps p.tables e below (T1.setTop (mkF m 232 #[.val (.int p1), .val (.int p2), .val (.int p3), .val (.int 1), .val (.int 1), .val (.int 2), .val (.ref b1), .val (.ref b8), .val (.ref b15), .val (.ref w_DENY)] [(.int 1), (.ref b15), (.ref b8), (.ref w_DENY)])) _
  refine XS.bipush X1.here hx rfl (hb hby at_232) ?_
  show Steps p.tables e below (T1.setTop (mkF m 234 #[.val (.int p1), .val (.int p2), .val (.int p3), .val (.int 1), .val (.int 1), .val (.int 2), .val (.ref b1), .val (.ref b8), .val (.ref b15), .val (.ref w_DENY)] [(.int 9), (.int 1), (.ref b15), (.ref b8), (.ref w_DENY)])) _
  refine XS.imul X1.here hx rfl (hb hby at_234) rfl ?_
  show Steps p.tables e below (T1.setTop (mkF m 235 #[.val (.int p1), .val (.int p2), .val (.int p3), .val (.int 1), .val (.int 1), .val (.int 2), .val (.ref b1), .val (.ref b8), .val (.ref b15), .val (.ref w_DENY)] [(.int ((1 : Int32) * (9 : Int32))), (.ref b15), (.ref b8), (.ref w_DENY)])) _
  rw [(by decide : ((1 : Int32) * (9 : Int32)) = (9 : Int32))]
  show Steps p.tables e below (T1.setTop (mkF m 235 #[.val (.int p1), .val (.int p2), .val (.int p3), .val (.int 1), .val (.int 1), .val (.int 2), .val (.ref b1), .val (.ref b8), .val (.ref b15), .val (.ref w_DENY)] [(.int 9), (.ref b15), (.ref b8), (.ref w_DENY)])) _
  refine XS.iload X1.here hx rfl (hb hby at_235) rfl ?_
  show Steps p.tables e below (T1.setTop (mkF m 237 #[.val (.int p1), .val (.int p2), .val (.int p3), .val (.int 1), .val (.int 1), .val (.int 2), .val (.ref b1), .val (.ref b8), .val (.ref b15), .val (.ref w_DENY)] [(.int 1), (.int 9), (.ref b15), (.ref b8), (.ref w_DENY)])) _
  refine XS.iconst X1.here hx rfl (hb hby at_237) ?_
  show Steps p.tables e below (T1.setTop (mkF m 238 #[.val (.int p1), .val (.int p2), .val (.int p3), .val (.int 1), .val (.int 1), .val (.int 2), .val (.ref b1), .val (.ref b8), .val (.ref b15), .val (.ref w_DENY)] [(.int 3), (.int 1), (.int 9), (.ref b15), (.ref b8), (.ref w_DENY)])) _
  refine XS.imul X1.here hx rfl (hb hby at_238) rfl ?_
  show Steps p.tables e below (T1.setTop (mkF m 239 #[.val (.int p1), .val (.int p2), .val (.int p3), .val (.int 1), .val (.int 1), .val (.int 2), .val (.ref b1), .val (.ref b8), .val (.ref b15), .val (.ref w_DENY)] [(.int ((1 : Int32) * (3 : Int32))), (.int 9), (.ref b15), (.ref b8), (.ref w_DENY)])) _
  rw [(by decide : ((1 : Int32) * (3 : Int32)) = (3 : Int32))]
  show Steps p.tables e below (T1.setTop (mkF m 239 #[.val (.int p1), .val (.int p2), .val (.int p3), .val (.int 1), .val (.int 1), .val (.int 2), .val (.ref b1), .val (.ref b8), .val (.ref b15), .val (.ref w_DENY)] [(.int 3), (.int 9), (.ref b15), (.ref b8), (.ref w_DENY)])) _
  refine XS.iadd X1.here hx rfl (hb hby at_239) rfl ?_
  show Steps p.tables e below (T1.setTop (mkF m 240 #[.val (.int p1), .val (.int p2), .val (.int p3), .val (.int 1), .val (.int 1), .val (.int 2), .val (.ref b1), .val (.ref b8), .val (.ref b15), .val (.ref w_DENY)] [(.int ((9 : Int32) + (3 : Int32))), (.ref b15), (.ref b8), (.ref w_DENY)])) _
  rw [(by decide : ((9 : Int32) + (3 : Int32)) = (12 : Int32))]
  show Steps p.tables e below (T1.setTop (mkF m 240 #[.val (.int p1), .val (.int p2), .val (.int p3), .val (.int 1), .val (.int 1), .val (.int 2), .val (.ref b1), .val (.ref b8), .val (.ref b15), .val (.ref w_DENY)] [(.int 12), (.ref b15), (.ref b8), (.ref w_DENY)])) _
  refine XS.iload X1.here hx rfl (hb hby at_240) rfl ?_
  show Steps p.tables e below (T1.setTop (mkF m 242 #[.val (.int p1), .val (.int p2), .val (.int p3), .val (.int 1), .val (.int 1), .val (.int 2), .val (.ref b1), .val (.ref b8), .val (.ref b15), .val (.ref w_DENY)] [(.int 2), (.int 12), (.ref b15), (.ref b8), (.ref w_DENY)])) _
  refine XS.iadd X1.here hx rfl (hb hby at_242) rfl ?_
  show Steps p.tables e below (T1.setTop (mkF m 243 #[.val (.int p1), .val (.int p2), .val (.int p3), .val (.int 1), .val (.int 1), .val (.int 2), .val (.ref b1), .val (.ref b8), .val (.ref b15), .val (.ref w_DENY)] [(.int ((12 : Int32) + (2 : Int32))), (.ref b15), (.ref b8), (.ref w_DENY)])) _
  rw [(by decide : ((12 : Int32) + (2 : Int32)) = (14 : Int32))]
  show Steps p.tables e below (T1.setTop (mkF m 243 #[.val (.int p1), .val (.int p2), .val (.int p3), .val (.int 1), .val (.int 1), .val (.int 2), .val (.ref b1), .val (.ref b8), .val (.ref b15), .val (.ref w_DENY)] [(.int 14), (.ref b15), (.ref b8), (.ref w_DENY)])) _
  refine own_ldI X1 hx hZ e1 V_b15 (j := (14 : Int32)) ⟨by decide, by decide⟩ rfl (g := (mkF m 243 #[.val (.int p1), .val (.int p2), .val (.int p3), .val (.int 1), .val (.int 1), .val (.int 2), .val (.ref b1), .val (.ref b8), .val (.ref b15), .val (.ref w_DENY)] [(.int 14), (.ref b15), (.ref b8), (.ref w_DENY)])) rfl rfl (hb hby at_243) _ ?_
  show Steps p.tables e below (T1.setTop (mkF m 244 #[.val (.int p1), .val (.int p2), .val (.int p3), .val (.int 1), .val (.int 1), .val (.int 2), .val (.ref b1), .val (.ref b8), .val (.ref b15), .val (.ref w_DENY)] [(.int 1), (.ref b8), (.ref w_DENY)])) _
  refine own_ldR X1 hx hZ e1 V_b8 (j := (1 : Int32)) ⟨by decide, by decide⟩ rfl (g := (mkF m 244 #[.val (.int p1), .val (.int p2), .val (.int p3), .val (.int 1), .val (.int 1), .val (.int 2), .val (.ref b1), .val (.ref b8), .val (.ref b15), .val (.ref w_DENY)] [(.int 1), (.ref b8), (.ref w_DENY)])) rfl rfl (hb hby at_244) _ ?_
  show Steps p.tables e below (T1.setTop (mkF m 245 #[.val (.int p1), .val (.int p2), .val (.int p3), .val (.int 1), .val (.int 1), .val (.int 2), .val (.ref b1), .val (.ref b8), .val (.ref b15), .val (.ref w_DENY)] [(.ref w_DENY), (.ref w_DENY)])) _
  refine Jvm.RoadKit.acmp (g := (mkF m 245 #[.val (.int p1), .val (.int p2), .val (.int p3), .val (.int 1), .val (.int 1), .val (.int 2), .val (.ref b1), .val (.ref b8), .val (.ref b15), .val (.ref w_DENY)] [(.ref w_DENY), (.ref w_DENY)])) X1 hx rfl rfl rfl (pc0 := 245) (pc' := 248) (same := true) rfl (hb hby at_245) rfl (decide_eq_true rfl) (by decide) (by decide) ?_
  show Steps p.tables e below (T1.setTop (mkF m 248 #[.val (.int p1), .val (.int p2), .val (.int p3), .val (.int 1), .val (.int 1), .val (.int 2), .val (.ref b1), .val (.ref b8), .val (.ref b15), .val (.ref w_DENY)] [])) _
  refine XS.iconst X1.here hx rfl (hb hby at_248) ?_
  show Steps p.tables e below (T1.setTop (mkF m 249 #[.val (.int p1), .val (.int p2), .val (.int p3), .val (.int 1), .val (.int 1), .val (.int 2), .val (.ref b1), .val (.ref b8), .val (.ref b15), .val (.ref w_DENY)] [(.int 1)])) _
  refine XS.goto X1.here hx rfl (pc0 := 249) (pc' := 253) rfl (hb hby at_249) (by decide) (by decide) ?_
  show Steps p.tables e below (T1.setTop (mkF m 253 #[.val (.int p1), .val (.int p2), .val (.int p3), .val (.int 1), .val (.int 1), .val (.int 2), .val (.ref b1), .val (.ref b8), .val (.ref b15), .val (.ref w_DENY)] [(.int 1)])) _
  exact kt
def Q1_w_PARENT_OVERRIDES_w_INDETERMINATE_w_PERMIT (Z : State) (w_PARENT_OVERRIDES : Addr) (w_INDETERMINATE : Addr) (w_PERMIT : Addr) (h0 : Heap) (n0 : Nat) (v : Option Value) (h : Heap) (L : List Loc) : Prop := v = some (.ref w_PERMIT) ∧ Fr n0 L ∧ h = h0
set_option maxRecDepth 65536 in
set_option maxHeartbeats 40000000 in
theorem rm1_w_PARENT_OVERRIDES_w_INDETERMINATE_w_PERMIT (l : Launch) (Z : State) (a0 : Array Value) (hw : ∀ d ∈ tables_1, d.before a0 Z = true) (ws : List Jvm.Cond) (w_PARENT_OVERRIDES : Addr) (w_INDETERMINATE : Addr) (w_PERMIT : Addr) (h0 : Heap) (n0 : Nat) (Z0 : n0 ≤ h0.size) (F_ordinal_w_PARENT_OVERRIDES : Fld Z h0 w_PARENT_OVERRIDES "java/lang/Enum" "ordinal" "I" (.int 1)) (E_w_PARENT_OVERRIDES : Exa Z h0 w_PARENT_OVERRIDES "com/example/tributary/tributary/AccessList$InheritanceType") (S_INDETERMINATE : Sta Z h0 "com/example/tributary/tributary/AccessList$Decision" "INDETERMINATE" "Lcom/example/tributary/tributary/AccessList$Decision;" (.ref w_INDETERMINATE)) :
    MetFree l (⟨"com/example/tributary/tributary/AccessList$InheritanceType", "combine", "(Lcom/example/tributary/tributary/AccessList$Decision;Lcom/example/tributary/tributary/AccessList$Decision;)Lcom/example/tributary/tributary/AccessList$Decision;"⟩ : MethodName) (head1 (Jvm.Cond.code (⟨"com/example/tributary/tributary/AccessList$InheritanceType", "combine", "(Lcom/example/tributary/tributary/AccessList$Decision;Lcom/example/tributary/tributary/AccessList$Decision;)Lcom/example/tributary/tributary/AccessList$Decision;"⟩ : MethodName) prog_6_method_4_code 3 (some (.object "com/example/tributary/tributary/AccessList$Decision")) :: ws) ({ frames := 1, cells := 0, slots := 0, locals := 12 } : Room)) (fun a U => a = #[(.ref w_PARENT_OVERRIDES), (.ref w_INDETERMINATE), (.ref w_PERMIT)] ∧ Z.Warmed39 U.vm ∧ U.heap = h0) (fun _ _ _ _ _ => True) (fun _ U o U' => ∃ v L, o = .returned v ∧ Q1_w_PARENT_OVERRIDES_w_INDETERMINATE_w_PERMIT Z w_PARENT_OVERRIDES w_INDETERMINATE w_PERMIT h0 n0 v U'.heap L ∧ FrameEnd U o U' L ({ frames := 1, cells := 0, slots := 0, locals := 12 } : Room).cells ({ frames := 1, cells := 0, slots := 0, locals := 12 } : Room).slots) := by
  refine MetFree.of_bodySF (plainFor_of_name pn_1) hisR ?_
  intro p e s m args below meth c s₁ Bd hml0 hP hK
  obtain ⟨rfl, hZ, hh⟩ := hP
  have hx := Bd.exec
  have hby := Bd.bytes
  have hml : c.maxLocals = 3 := hml0
  have hown : s.vm.findClass "com/example/tributary/tributary/AccessList$InheritanceType" = some m.cls := findClass_of_methodNamed Bd.named
  have hnm := (name_of_methodNamed Bd.named Bd.method).1
  have X0 : Stand p l e ({ frames := 1, cells := 0, slots := 0, locals := 12 } : Room) s m #[(.ref w_PARENT_OVERRIDES), (.ref w_INDETERMINATE), (.ref w_PERMIT)] below meth c s₁ [] 0 0 := Stand.of_body Bd
  have e0 : s₁.heap = h0 := by rw [← hh, Bd.state]; rfl
  have N0 := Fr.nil n0
  have pre0 : ∀ t, Steps p.tables e below (s₁.setTop (mkF m 0 #[.val (.ref w_PARENT_OVERRIDES), .val (.ref w_INDETERMINATE), .val (.ref w_PERMIT)] [])) t → Steps p.tables e below (s₁.setTop (entryFrame m #[(.ref w_PARENT_OVERRIDES), (.ref w_INDETERMINATE), (.ref w_PERMIT)] 3)) t := fun t k => castTop (by first | (simp [entryFrame, mkF, argsToLocals, Value.category]; done) | rfl) k
  obtain ⟨cq1, kq1, q1a, q1b, q1c⟩ := isOf hZ e0 E_w_PARENT_OVERRIDES
  obtain ⟨_, _, ⟨T1, L1, k1, n1⟩, -, X1, ⟨Lc1, hQ1, l1, y1, z1⟩, st1⟩ := X0.virtualBackUp hx (x := (⟨"com/example/tributary/tributary/AccessList$InheritanceType", "ordinal", "()I"⟩ : MethodName)) (y := (⟨"java/lang/Enum", "ordinal", "()I"⟩ : MethodName)) (owner := "java/lang/Enum") hown (mvT hZ (hw _ (List.mem_of_getElem? (i := 27) rfl))) (mvT hZ (hw _ (List.mem_of_getElem? (i := 28) rfl))) (mvT hZ (hw _ (List.mem_of_getElem? (i := 29) rfl))) (by decide) (mvT hZ (hw _ (List.mem_of_getElem? (i := 31) rfl))) (mvT hZ (hw _ (List.mem_of_getElem? (i := 30) rfl))) (backOf (W := 0) (rm2_w_PARENT_OVERRIDES l Z a0 hw [] w_PARENT_OVERRIDES h0 n0 Z0 F_ordinal_w_PARENT_OVERRIDES) hZ (hw _ (List.mem_of_getElem? (i := 33) rfl)) (hw _ (List.mem_of_getElem? (i := 32) rfl)) (by decide) (by decide)) q1a q1c (g := (mkF m 1 #[.val (.ref w_PARENT_OVERRIDES), .val (.ref w_INDETERMINATE), .val (.ref w_PERMIT)] [(.ref w_PARENT_OVERRIDES)])) rfl (by rw [hml]; rfl) (Steps.refl _) (argsL := []) (rest := []) (lenOf pd___I rfl) rfl (by show 2 * 0 + _ ≤ _; exact Nat.le_of_eq rfl) (hb hby d1_1) (fun _ _ => ⟨rfl, e0, (by decide : 0 + 0 ≤ _), (by decide : 0 + 0 ≤ _)⟩)
  dsimp only [Pt.U, Pt.locs, Pt.cells, Pt.slots] at X1 l1 y1 z1 st1 hQ1
  subst l1 y1 z1
  obtain ⟨rfl, N1q, e1⟩ := hQ1
  have N1 := Fr.app N0 N1q
  obtain ⟨T2, X2, e2, st2⟩ := getS2 X1 hx hZ hown (host := "") (Or.inl (hw _ (List.mem_of_getElem? (i := 36) rfl))) Via.refl e1 S_INDETERMINATE (g := (mkF m 62 #[.val (.ref w_PARENT_OVERRIDES), .val (.ref w_INDETERMINATE), .val (.ref w_PERMIT)] [(.ref w_INDETERMINATE)])) rfl (hb hby d1_62)
  obtain ⟨fs, hr, hrun, hended, hW, hsame⟩ := X2.leave (v := some (.ref w_PERMIT)) (fun h => by rw [Bd.returns] at h; cases h)
  refine ⟨_, _, pre0 _ ?_, hrun, hended, _, _, rfl, ?_, ⟨_, rfl⟩, hW, hsame.mono (by decide) (by decide)⟩
  · show Steps p.tables e below (s₁.setTop (mkF m 0 #[.val (.ref w_PARENT_OVERRIDES), .val (.ref w_INDETERMINATE), .val (.ref w_PERMIT)] [])) _
    refine XS.aloadN X0.here hx rfl (hb hby d1_0) rfl rfl ?_
    show Steps p.tables e below (s₁.setTop (mkF m 1 #[.val (.ref w_PARENT_OVERRIDES), .val (.ref w_INDETERMINATE), .val (.ref w_PERMIT)] [(.ref w_PARENT_OVERRIDES)])) _
    refine st1.trans ?_
    show Steps p.tables e below (T1.setTop (mkF m 4 #[.val (.ref w_PARENT_OVERRIDES), .val (.ref w_INDETERMINATE), .val (.ref w_PERMIT)] [(.int 1)])) _
    refine XS.tswIn X1.here hx rfl (pc0 := 4) (pc' := 61) rfl (hb hby d1_4) rfl (by decide) (o := 57) (by decide) (by decide) (by decide) ?_
    show Steps p.tables e below (T1.setTop (mkF m 61 #[.val (.ref w_PARENT_OVERRIDES), .val (.ref w_INDETERMINATE), .val (.ref w_PERMIT)] [])) _
    refine XS.aloadN X1.here hx rfl (hb hby d1_61) rfl rfl ?_
    show Steps p.tables e below (T1.setTop (mkF m 62 #[.val (.ref w_PARENT_OVERRIDES), .val (.ref w_INDETERMINATE), .val (.ref w_PERMIT)] [(.ref w_INDETERMINATE)])) _
    refine st2 _ ?_
    show Steps p.tables e below (T2.setTop (mkF m 65 #[.val (.ref w_PARENT_OVERRIDES), .val (.ref w_INDETERMINATE), .val (.ref w_PERMIT)] [(.ref w_INDETERMINATE), (.ref w_INDETERMINATE)])) _
    refine Jvm.RoadKit.acmp (g := (mkF m 65 #[.val (.ref w_PARENT_OVERRIDES), .val (.ref w_INDETERMINATE), .val (.ref w_PERMIT)] [(.ref w_INDETERMINATE), (.ref w_INDETERMINATE)])) X2 hx rfl rfl rfl (pc0 := 65) (pc' := 68) (same := true) rfl (hb hby d1_65) rfl (decide_eq_true rfl) (by decide) (by decide) ?_
    show Steps p.tables e below (T2.setTop (mkF m 68 #[.val (.ref w_PARENT_OVERRIDES), .val (.ref w_INDETERMINATE), .val (.ref w_PERMIT)] [])) _
    refine XS.aloadN X2.here hx rfl (hb hby d1_68) rfl rfl ?_
    show Steps p.tables e below (T2.setTop (mkF m 69 #[.val (.ref w_PARENT_OVERRIDES), .val (.ref w_INDETERMINATE), .val (.ref w_PERMIT)] [(.ref w_PERMIT)])) _
    refine XS.goto X2.here hx rfl (pc0 := 69) (pc' := 112) rfl (hb hby d1_69) (by decide) (by decide) ?_
    show Steps p.tables e below (T2.setTop (mkF m 112 #[.val (.ref w_PARENT_OVERRIDES), .val (.ref w_INDETERMINATE), .val (.ref w_PERMIT)] [(.ref w_PERMIT)])) _
    jvm_step X2.here [X2.here.top, hx, (hb hby d1_112), X2.method', Bd.returns, Value.isRef, FieldType.isReference]
    first | (intro acts; rw [hr _ acts rfl rfl rfl]) | rw [hr _ _ rfl rfl rfl]
    exact Steps.refl _
  · show Q1_w_PARENT_OVERRIDES_w_INDETERMINATE_w_PERMIT Z w_PARENT_OVERRIDES w_INDETERMINATE w_PERMIT h0 n0 _ T2.heap _
    rw [e2]
    exact ⟨rfl, N1, rfl⟩
set_option maxRecDepth 65536 in
set_option maxHeartbeats 40000000 in
theorem pc0_k120 {p : Program} {l : Launch} {e : Env} {s : State} {m : MethodId} {args : Array Value} {below : List Frame} {meth : Method} {c : Code} {T0 : State} {locs : List Loc} {Z : State} {a0 : Array Value} {h0 : Heap} {n0 : Nat} (p1 : Int32) (p2 : Int32) (p3 : Int32) (b1 : Addr) (b8 : Addr) (b15 : Addr) (k1 : ClassId) (w_CHILD_OVERRIDES : Addr) (w_PARENT_OVERRIDES : Addr) (w_AND_BOTH_PERMIT : Addr) (k8 : ClassId) (w_PERMIT : Addr) (w_DENY : Addr) (w_INDETERMINATE : Addr) (k15 : ClassId)
    (X0 : Stand p l e room_1 s m args below meth c T0 locs 3 33) (hx : p.tables.exec = Jvm.exec) (hZ : Z.Warmed39 s.vm) (hw : ∀ d ∈ tables_1, d.before a0 Z = true) (hby : c.code = code) (hml : c.maxLocals = 10) (hown : s.vm.findClass "com/example/tributary/tributary/InheritanceTypeCombinePinLaw" = some m.cls) (e0 : T0.heap = h0) (Z0 : n0 ≤ h0.size) (N0 : Fr n0 locs) (V_b1 : Arv Z h0 b1 k1 (.object "com/example/tributary/tributary/AccessList$InheritanceType") (3 : Int32) [(.ref w_CHILD_OVERRIDES), (.ref w_PARENT_OVERRIDES), (.ref w_AND_BOTH_PERMIT)] .null) (V_b8 : Arv Z h0 b8 k8 (.object "com/example/tributary/tributary/AccessList$Decision") (3 : Int32) [(.ref w_PERMIT), (.ref w_DENY), (.ref w_INDETERMINATE)] .null) (F_ordinal_w_PARENT_OVERRIDES : Fld Z h0 w_PARENT_OVERRIDES "java/lang/Enum" "ordinal" "I" (.int 1)) (E_w_PARENT_OVERRIDES : Exa Z h0 w_PARENT_OVERRIDES "com/example/tributary/tributary/AccessList$InheritanceType") (S_INDETERMINATE : Sta Z h0 "com/example/tributary/tributary/AccessList$Decision" "INDETERMINATE" "Lcom/example/tributary/tributary/AccessList$Decision;" (.ref w_INDETERMINATE)) (V_b15 : Arv Z h0 b15 k15 .int (27 : Int32) [(.int 0), (.int 1), (.int 0), (.int 0), (.int 1), (.int 1), (.int 0), (.int 1), (.int 2), (.int 0), (.int 0), (.int 0), (.int 1), (.int 1), (.int 1), (.int 0), (.int 1), (.int 2), (.int 0), (.int 1), (.int 1), (.int 1), (.int 1), (.int 1), (.int 1), (.int 1), (.int 1)] (.int (0 : Int32))) :
    ∃ (T' : State) (L' : List Loc) (Ls : Array Slot), Stand p l e room_1 s m args below meth c T' L' 3 33 ∧ Fr n0 L' ∧ ∀ target, Steps p.tables e below (T'.setTop (mkF m 253 Ls [(.int 1)])) target → Steps p.tables e below (T0.setTop (mkF m 206 #[.val (.int p1), .val (.int p2), .val (.int p3), .val (.int 1), .val (.int 2), .val (.int 0), .val (.ref b1), .val (.ref b8), .val (.ref b15), .unset] [])) target := by
  obtain ⟨cq1, kq1, q1a, q1b, q1c⟩ := isOf hZ e0 E_w_PARENT_OVERRIDES
  obtain ⟨_, _, ⟨T1, L1, k1, n1⟩, -, X1, ⟨Lc1, hQ1, l1, y1, z1⟩, st1⟩ := X0.virtualBack hx (y := (⟨"com/example/tributary/tributary/AccessList$InheritanceType", "combine", "(Lcom/example/tributary/tributary/AccessList$Decision;Lcom/example/tributary/tributary/AccessList$Decision;)Lcom/example/tributary/tributary/AccessList$Decision;"⟩ : MethodName)) (z := (⟨"com/example/tributary/tributary/AccessList$InheritanceType", "combine", "(Lcom/example/tributary/tributary/AccessList$Decision;Lcom/example/tributary/tributary/AccessList$Decision;)Lcom/example/tributary/tributary/AccessList$Decision;"⟩ : MethodName)) hown (mvT hZ (hw _ (List.mem_of_getElem? (i := 22) rfl))) (mvT hZ (hw _ (List.mem_of_getElem? (i := 23) rfl))) (notFace_of_selects (args := #[]) (mvT hZ (hw _ (List.mem_of_getElem? (i := 25) rfl)))) (mvT hZ (hw _ (List.mem_of_getElem? (i := 25) rfl))) (mvT hZ (hw _ (List.mem_of_getElem? (i := 24) rfl))) (by decide) (backOf (W := 0) (rm1_w_PARENT_OVERRIDES_w_INDETERMINATE_w_PERMIT l Z a0 hw [] w_PARENT_OVERRIDES w_INDETERMINATE w_PERMIT h0 n0 Z0 F_ordinal_w_PARENT_OVERRIDES E_w_PARENT_OVERRIDES S_INDETERMINATE) hZ (hw _ (List.mem_of_getElem? (i := 26) rfl)) (hw _ (List.mem_of_getElem? (i := 4) rfl)) (by decide) (by decide)) q1a q1c (g := (mkF m 220 #[.val (.int p1), .val (.int p2), .val (.int p3), .val (.int 1), .val (.int 2), .val (.int 0), .val (.ref b1), .val (.ref b8), .val (.ref b15), .unset] [(.ref w_PERMIT), (.ref w_INDETERMINATE), (.ref w_PARENT_OVERRIDES)])) rfl (by rw [hml]; rfl) (Steps.refl _) (argsL := [(.ref w_INDETERMINATE), (.ref w_PERMIT)]) (rest := []) (lenOf pd__Lcom_example_tributary_tributary_AccessList_Decision_Lcom_example_tributary_tributary_AccessList_Decision__Lcom_example_tributary_tributary_AccessList_Decision_ rfl) rfl (by show 2 * 0 + _ ≤ _; exact Nat.le_of_eq rfl) (hb hby at_220) (fun _ _ => ⟨rfl, e0, (by decide : 3 + 0 ≤ _), (by decide : 33 + 0 ≤ _)⟩)
  dsimp only [Pt.U, Pt.locs, Pt.cells, Pt.slots] at X1 l1 y1 z1 st1 hQ1
  subst l1 y1 z1
  obtain ⟨rfl, N1q, e1⟩ := hQ1
  have N1 := Fr.app N0 N1q
  refine ⟨T1, _, #[.val (.int p1), .val (.int p2), .val (.int p3), .val (.int 1), .val (.int 2), .val (.int 0), .val (.ref b1), .val (.ref b8), .val (.ref b15), .val (.ref w_PERMIT)], X1, N1, fun target kt => ?_⟩
  show Steps p.tables e below (T0.setTop (mkF m 206 #[.val (.int p1), .val (.int p2), .val (.int p3), .val (.int 1), .val (.int 2), .val (.int 0), .val (.ref b1), .val (.ref b8), .val (.ref b15), .unset] [])) _
  refine XS.aload X0.here hx rfl (hb hby at_206) rfl rfl ?_
  show Steps p.tables e below (T0.setTop (mkF m 208 #[.val (.int p1), .val (.int p2), .val (.int p3), .val (.int 1), .val (.int 2), .val (.int 0), .val (.ref b1), .val (.ref b8), .val (.ref b15), .unset] [(.ref b1)])) _
  refine XS.iloadN X0.here hx rfl (hb hby at_208) rfl ?_
  show Steps p.tables e below (T0.setTop (mkF m 209 #[.val (.int p1), .val (.int p2), .val (.int p3), .val (.int 1), .val (.int 2), .val (.int 0), .val (.ref b1), .val (.ref b8), .val (.ref b15), .unset] [(.int 1), (.ref b1)])) _
  refine own_ldR X0 hx hZ e0 V_b1 (j := (1 : Int32)) ⟨by decide, by decide⟩ rfl (g := (mkF m 209 #[.val (.int p1), .val (.int p2), .val (.int p3), .val (.int 1), .val (.int 2), .val (.int 0), .val (.ref b1), .val (.ref b8), .val (.ref b15), .unset] [(.int 1), (.ref b1)])) rfl rfl (hb hby at_209) _ ?_
  show Steps p.tables e below (T0.setTop (mkF m 210 #[.val (.int p1), .val (.int p2), .val (.int p3), .val (.int 1), .val (.int 2), .val (.int 0), .val (.ref b1), .val (.ref b8), .val (.ref b15), .unset] [(.ref w_PARENT_OVERRIDES)])) _
  refine XS.aload X0.here hx rfl (hb hby at_210) rfl rfl ?_
  show Steps p.tables e below (T0.setTop (mkF m 212 #[.val (.int p1), .val (.int p2), .val (.int p3), .val (.int 1), .val (.int 2), .val (.int 0), .val (.ref b1), .val (.ref b8), .val (.ref b15), .unset] [(.ref b8), (.ref w_PARENT_OVERRIDES)])) _
  refine XS.iload X0.here hx rfl (hb hby at_212) rfl ?_
  show Steps p.tables e below (T0.setTop (mkF m 214 #[.val (.int p1), .val (.int p2), .val (.int p3), .val (.int 1), .val (.int 2), .val (.int 0), .val (.ref b1), .val (.ref b8), .val (.ref b15), .unset] [(.int 2), (.ref b8), (.ref w_PARENT_OVERRIDES)])) _
  refine own_ldR X0 hx hZ e0 V_b8 (j := (2 : Int32)) ⟨by decide, by decide⟩ rfl (g := (mkF m 214 #[.val (.int p1), .val (.int p2), .val (.int p3), .val (.int 1), .val (.int 2), .val (.int 0), .val (.ref b1), .val (.ref b8), .val (.ref b15), .unset] [(.int 2), (.ref b8), (.ref w_PARENT_OVERRIDES)])) rfl rfl (hb hby at_214) _ ?_
  show Steps p.tables e below (T0.setTop (mkF m 215 #[.val (.int p1), .val (.int p2), .val (.int p3), .val (.int 1), .val (.int 2), .val (.int 0), .val (.ref b1), .val (.ref b8), .val (.ref b15), .unset] [(.ref w_INDETERMINATE), (.ref w_PARENT_OVERRIDES)])) _
  refine XS.aload X0.here hx rfl (hb hby at_215) rfl rfl ?_
  show Steps p.tables e below (T0.setTop (mkF m 217 #[.val (.int p1), .val (.int p2), .val (.int p3), .val (.int 1), .val (.int 2), .val (.int 0), .val (.ref b1), .val (.ref b8), .val (.ref b15), .unset] [(.ref b8), (.ref w_INDETERMINATE), (.ref w_PARENT_OVERRIDES)])) _
  refine XS.iload X0.here hx rfl (hb hby at_217) rfl ?_
  show Steps p.tables e below (T0.setTop (mkF m 219 #[.val (.int p1), .val (.int p2), .val (.int p3), .val (.int 1), .val (.int 2), .val (.int 0), .val (.ref b1), .val (.ref b8), .val (.ref b15), .unset] [(.int 0), (.ref b8), (.ref w_INDETERMINATE), (.ref w_PARENT_OVERRIDES)])) _
  refine own_ldR X0 hx hZ e0 V_b8 (j := (0 : Int32)) ⟨by decide, by decide⟩ rfl (g := (mkF m 219 #[.val (.int p1), .val (.int p2), .val (.int p3), .val (.int 1), .val (.int 2), .val (.int 0), .val (.ref b1), .val (.ref b8), .val (.ref b15), .unset] [(.int 0), (.ref b8), (.ref w_INDETERMINATE), (.ref w_PARENT_OVERRIDES)])) rfl rfl (hb hby at_219) _ ?_
  show Steps p.tables e below (T0.setTop (mkF m 220 #[.val (.int p1), .val (.int p2), .val (.int p3), .val (.int 1), .val (.int 2), .val (.int 0), .val (.ref b1), .val (.ref b8), .val (.ref b15), .unset] [(.ref w_PERMIT), (.ref w_INDETERMINATE), (.ref w_PARENT_OVERRIDES)])) _
  refine st1.trans ?_
  show Steps p.tables e below (T1.setTop (mkF m 223 #[.val (.int p1), .val (.int p2), .val (.int p3), .val (.int 1), .val (.int 2), .val (.int 0), .val (.ref b1), .val (.ref b8), .val (.ref b15), .unset] [(.ref w_PERMIT)])) _
  refine XS.astore X1.here hx rfl (hb hby at_223) rfl rfl (l' := #[.val (.int p1), .val (.int p2), .val (.int p3), .val (.int 1), .val (.int 2), .val (.int 0), .val (.ref b1), .val (.ref b8), .val (.ref b15), .val (.ref w_PERMIT)]) rfl ?_
  show Steps p.tables e below (T1.setTop (mkF m 225 #[.val (.int p1), .val (.int p2), .val (.int p3), .val (.int 1), .val (.int 2), .val (.int 0), .val (.ref b1), .val (.ref b8), .val (.ref b15), .val (.ref w_PERMIT)] [])) _
  refine XS.aload X1.here hx rfl (hb hby at_225) rfl rfl ?_
  show Steps p.tables e below (T1.setTop (mkF m 227 #[.val (.int p1), .val (.int p2), .val (.int p3), .val (.int 1), .val (.int 2), .val (.int 0), .val (.ref b1), .val (.ref b8), .val (.ref b15), .val (.ref w_PERMIT)] [(.ref w_PERMIT)])) _
  refine XS.aload X1.here hx rfl (hb hby at_227) rfl rfl ?_
  show Steps p.tables e below (T1.setTop (mkF m 229 #[.val (.int p1), .val (.int p2), .val (.int p3), .val (.int 1), .val (.int 2), .val (.int 0), .val (.ref b1), .val (.ref b8), .val (.ref b15), .val (.ref w_PERMIT)] [(.ref b8), (.ref w_PERMIT)])) _
  refine XS.aload X1.here hx rfl (hb hby at_229) rfl rfl ?_
  show Steps p.tables e below (T1.setTop (mkF m 231 #[.val (.int p1), .val (.int p2), .val (.int p3), .val (.int 1), .val (.int 2), .val (.int 0), .val (.ref b1), .val (.ref b8), .val (.ref b15), .val (.ref w_PERMIT)] [(.ref b15), (.ref b8), (.ref w_PERMIT)])) _
  refine XS.iloadN X1.here hx rfl (hb hby at_231) rfl ?_
  show Steps p.tables e below (T1.setTop (mkF m 232 #[.val (.int p1), .val (.int p2), .val (.int p3), .val (.int 1), .val (.int 2), .val (.int 0), .val (.ref b1), .val (.ref b8), .val (.ref b15), .val (.ref w_PERMIT)] [(.int 1), (.ref b15), (.ref b8), (.ref w_PERMIT)])) _
  refine XS.bipush X1.here hx rfl (hb hby at_232) ?_
  show Steps p.tables e below (T1.setTop (mkF m 234 #[.val (.int p1), .val (.int p2), .val (.int p3), .val (.int 1), .val (.int 2), .val (.int 0), .val (.ref b1), .val (.ref b8), .val (.ref b15), .val (.ref w_PERMIT)] [(.int 9), (.int 1), (.ref b15), (.ref b8), (.ref w_PERMIT)])) _
  refine XS.imul X1.here hx rfl (hb hby at_234) rfl ?_
  show Steps p.tables e below (T1.setTop (mkF m 235 #[.val (.int p1), .val (.int p2), .val (.int p3), .val (.int 1), .val (.int 2), .val (.int 0), .val (.ref b1), .val (.ref b8), .val (.ref b15), .val (.ref w_PERMIT)] [(.int ((1 : Int32) * (9 : Int32))), (.ref b15), (.ref b8), (.ref w_PERMIT)])) _
  rw [(by decide : ((1 : Int32) * (9 : Int32)) = (9 : Int32))]
  show Steps p.tables e below (T1.setTop (mkF m 235 #[.val (.int p1), .val (.int p2), .val (.int p3), .val (.int 1), .val (.int 2), .val (.int 0), .val (.ref b1), .val (.ref b8), .val (.ref b15), .val (.ref w_PERMIT)] [(.int 9), (.ref b15), (.ref b8), (.ref w_PERMIT)])) _
  refine XS.iload X1.here hx rfl (hb hby at_235) rfl ?_
  show Steps p.tables e below (T1.setTop (mkF m 237 #[.val (.int p1), .val (.int p2), .val (.int p3), .val (.int 1), .val (.int 2), .val (.int 0), .val (.ref b1), .val (.ref b8), .val (.ref b15), .val (.ref w_PERMIT)] [(.int 2), (.int 9), (.ref b15), (.ref b8), (.ref w_PERMIT)])) _
  refine XS.iconst X1.here hx rfl (hb hby at_237) ?_
  show Steps p.tables e below (T1.setTop (mkF m 238 #[.val (.int p1), .val (.int p2), .val (.int p3), .val (.int 1), .val (.int 2), .val (.int 0), .val (.ref b1), .val (.ref b8), .val (.ref b15), .val (.ref w_PERMIT)] [(.int 3), (.int 2), (.int 9), (.ref b15), (.ref b8), (.ref w_PERMIT)])) _
  refine XS.imul X1.here hx rfl (hb hby at_238) rfl ?_
  show Steps p.tables e below (T1.setTop (mkF m 239 #[.val (.int p1), .val (.int p2), .val (.int p3), .val (.int 1), .val (.int 2), .val (.int 0), .val (.ref b1), .val (.ref b8), .val (.ref b15), .val (.ref w_PERMIT)] [(.int ((2 : Int32) * (3 : Int32))), (.int 9), (.ref b15), (.ref b8), (.ref w_PERMIT)])) _
  rw [(by decide : ((2 : Int32) * (3 : Int32)) = (6 : Int32))]
  show Steps p.tables e below (T1.setTop (mkF m 239 #[.val (.int p1), .val (.int p2), .val (.int p3), .val (.int 1), .val (.int 2), .val (.int 0), .val (.ref b1), .val (.ref b8), .val (.ref b15), .val (.ref w_PERMIT)] [(.int 6), (.int 9), (.ref b15), (.ref b8), (.ref w_PERMIT)])) _
  refine XS.iadd X1.here hx rfl (hb hby at_239) rfl ?_
  show Steps p.tables e below (T1.setTop (mkF m 240 #[.val (.int p1), .val (.int p2), .val (.int p3), .val (.int 1), .val (.int 2), .val (.int 0), .val (.ref b1), .val (.ref b8), .val (.ref b15), .val (.ref w_PERMIT)] [(.int ((9 : Int32) + (6 : Int32))), (.ref b15), (.ref b8), (.ref w_PERMIT)])) _
  rw [(by decide : ((9 : Int32) + (6 : Int32)) = (15 : Int32))]
  show Steps p.tables e below (T1.setTop (mkF m 240 #[.val (.int p1), .val (.int p2), .val (.int p3), .val (.int 1), .val (.int 2), .val (.int 0), .val (.ref b1), .val (.ref b8), .val (.ref b15), .val (.ref w_PERMIT)] [(.int 15), (.ref b15), (.ref b8), (.ref w_PERMIT)])) _
  refine XS.iload X1.here hx rfl (hb hby at_240) rfl ?_
  show Steps p.tables e below (T1.setTop (mkF m 242 #[.val (.int p1), .val (.int p2), .val (.int p3), .val (.int 1), .val (.int 2), .val (.int 0), .val (.ref b1), .val (.ref b8), .val (.ref b15), .val (.ref w_PERMIT)] [(.int 0), (.int 15), (.ref b15), (.ref b8), (.ref w_PERMIT)])) _
  refine XS.iadd X1.here hx rfl (hb hby at_242) rfl ?_
  show Steps p.tables e below (T1.setTop (mkF m 243 #[.val (.int p1), .val (.int p2), .val (.int p3), .val (.int 1), .val (.int 2), .val (.int 0), .val (.ref b1), .val (.ref b8), .val (.ref b15), .val (.ref w_PERMIT)] [(.int ((15 : Int32) + (0 : Int32))), (.ref b15), (.ref b8), (.ref w_PERMIT)])) _
  rw [(by decide : ((15 : Int32) + (0 : Int32)) = (15 : Int32))]
  show Steps p.tables e below (T1.setTop (mkF m 243 #[.val (.int p1), .val (.int p2), .val (.int p3), .val (.int 1), .val (.int 2), .val (.int 0), .val (.ref b1), .val (.ref b8), .val (.ref b15), .val (.ref w_PERMIT)] [(.int 15), (.ref b15), (.ref b8), (.ref w_PERMIT)])) _
  refine own_ldI X1 hx hZ e1 V_b15 (j := (15 : Int32)) ⟨by decide, by decide⟩ rfl (g := (mkF m 243 #[.val (.int p1), .val (.int p2), .val (.int p3), .val (.int 1), .val (.int 2), .val (.int 0), .val (.ref b1), .val (.ref b8), .val (.ref b15), .val (.ref w_PERMIT)] [(.int 15), (.ref b15), (.ref b8), (.ref w_PERMIT)])) rfl rfl (hb hby at_243) _ ?_
  show Steps p.tables e below (T1.setTop (mkF m 244 #[.val (.int p1), .val (.int p2), .val (.int p3), .val (.int 1), .val (.int 2), .val (.int 0), .val (.ref b1), .val (.ref b8), .val (.ref b15), .val (.ref w_PERMIT)] [(.int 0), (.ref b8), (.ref w_PERMIT)])) _
  refine own_ldR X1 hx hZ e1 V_b8 (j := (0 : Int32)) ⟨by decide, by decide⟩ rfl (g := (mkF m 244 #[.val (.int p1), .val (.int p2), .val (.int p3), .val (.int 1), .val (.int 2), .val (.int 0), .val (.ref b1), .val (.ref b8), .val (.ref b15), .val (.ref w_PERMIT)] [(.int 0), (.ref b8), (.ref w_PERMIT)])) rfl rfl (hb hby at_244) _ ?_
  show Steps p.tables e below (T1.setTop (mkF m 245 #[.val (.int p1), .val (.int p2), .val (.int p3), .val (.int 1), .val (.int 2), .val (.int 0), .val (.ref b1), .val (.ref b8), .val (.ref b15), .val (.ref w_PERMIT)] [(.ref w_PERMIT), (.ref w_PERMIT)])) _
  refine Jvm.RoadKit.acmp (g := (mkF m 245 #[.val (.int p1), .val (.int p2), .val (.int p3), .val (.int 1), .val (.int 2), .val (.int 0), .val (.ref b1), .val (.ref b8), .val (.ref b15), .val (.ref w_PERMIT)] [(.ref w_PERMIT), (.ref w_PERMIT)])) X1 hx rfl rfl rfl (pc0 := 245) (pc' := 248) (same := true) rfl (hb hby at_245) rfl (decide_eq_true rfl) (by decide) (by decide) ?_
  show Steps p.tables e below (T1.setTop (mkF m 248 #[.val (.int p1), .val (.int p2), .val (.int p3), .val (.int 1), .val (.int 2), .val (.int 0), .val (.ref b1), .val (.ref b8), .val (.ref b15), .val (.ref w_PERMIT)] [])) _
  refine XS.iconst X1.here hx rfl (hb hby at_248) ?_
  show Steps p.tables e below (T1.setTop (mkF m 249 #[.val (.int p1), .val (.int p2), .val (.int p3), .val (.int 1), .val (.int 2), .val (.int 0), .val (.ref b1), .val (.ref b8), .val (.ref b15), .val (.ref w_PERMIT)] [(.int 1)])) _
  refine XS.goto X1.here hx rfl (pc0 := 249) (pc' := 253) rfl (hb hby at_249) (by decide) (by decide) ?_
  show Steps p.tables e below (T1.setTop (mkF m 253 #[.val (.int p1), .val (.int p2), .val (.int p3), .val (.int 1), .val (.int 2), .val (.int 0), .val (.ref b1), .val (.ref b8), .val (.ref b15), .val (.ref w_PERMIT)] [(.int 1)])) _
  exact kt
def Q1_w_PARENT_OVERRIDES_w_INDETERMINATE_w_DENY (Z : State) (w_PARENT_OVERRIDES : Addr) (w_INDETERMINATE : Addr) (w_DENY : Addr) (h0 : Heap) (n0 : Nat) (v : Option Value) (h : Heap) (L : List Loc) : Prop := v = some (.ref w_DENY) ∧ Fr n0 L ∧ h = h0
set_option maxRecDepth 65536 in
set_option maxHeartbeats 40000000 in
theorem rm1_w_PARENT_OVERRIDES_w_INDETERMINATE_w_DENY (l : Launch) (Z : State) (a0 : Array Value) (hw : ∀ d ∈ tables_1, d.before a0 Z = true) (ws : List Jvm.Cond) (w_PARENT_OVERRIDES : Addr) (w_INDETERMINATE : Addr) (w_DENY : Addr) (h0 : Heap) (n0 : Nat) (Z0 : n0 ≤ h0.size) (F_ordinal_w_PARENT_OVERRIDES : Fld Z h0 w_PARENT_OVERRIDES "java/lang/Enum" "ordinal" "I" (.int 1)) (E_w_PARENT_OVERRIDES : Exa Z h0 w_PARENT_OVERRIDES "com/example/tributary/tributary/AccessList$InheritanceType") (S_INDETERMINATE : Sta Z h0 "com/example/tributary/tributary/AccessList$Decision" "INDETERMINATE" "Lcom/example/tributary/tributary/AccessList$Decision;" (.ref w_INDETERMINATE)) :
    MetFree l (⟨"com/example/tributary/tributary/AccessList$InheritanceType", "combine", "(Lcom/example/tributary/tributary/AccessList$Decision;Lcom/example/tributary/tributary/AccessList$Decision;)Lcom/example/tributary/tributary/AccessList$Decision;"⟩ : MethodName) (head1 (Jvm.Cond.code (⟨"com/example/tributary/tributary/AccessList$InheritanceType", "combine", "(Lcom/example/tributary/tributary/AccessList$Decision;Lcom/example/tributary/tributary/AccessList$Decision;)Lcom/example/tributary/tributary/AccessList$Decision;"⟩ : MethodName) prog_6_method_4_code 3 (some (.object "com/example/tributary/tributary/AccessList$Decision")) :: ws) ({ frames := 1, cells := 0, slots := 0, locals := 12 } : Room)) (fun a U => a = #[(.ref w_PARENT_OVERRIDES), (.ref w_INDETERMINATE), (.ref w_DENY)] ∧ Z.Warmed39 U.vm ∧ U.heap = h0) (fun _ _ _ _ _ => True) (fun _ U o U' => ∃ v L, o = .returned v ∧ Q1_w_PARENT_OVERRIDES_w_INDETERMINATE_w_DENY Z w_PARENT_OVERRIDES w_INDETERMINATE w_DENY h0 n0 v U'.heap L ∧ FrameEnd U o U' L ({ frames := 1, cells := 0, slots := 0, locals := 12 } : Room).cells ({ frames := 1, cells := 0, slots := 0, locals := 12 } : Room).slots) := by
  refine MetFree.of_bodySF (plainFor_of_name pn_1) hisR ?_
  intro p e s m args below meth c s₁ Bd hml0 hP hK
  obtain ⟨rfl, hZ, hh⟩ := hP
  have hx := Bd.exec
  have hby := Bd.bytes
  have hml : c.maxLocals = 3 := hml0
  have hown : s.vm.findClass "com/example/tributary/tributary/AccessList$InheritanceType" = some m.cls := findClass_of_methodNamed Bd.named
  have hnm := (name_of_methodNamed Bd.named Bd.method).1
  have X0 : Stand p l e ({ frames := 1, cells := 0, slots := 0, locals := 12 } : Room) s m #[(.ref w_PARENT_OVERRIDES), (.ref w_INDETERMINATE), (.ref w_DENY)] below meth c s₁ [] 0 0 := Stand.of_body Bd
  have e0 : s₁.heap = h0 := by rw [← hh, Bd.state]; rfl
  have N0 := Fr.nil n0
  have pre0 : ∀ t, Steps p.tables e below (s₁.setTop (mkF m 0 #[.val (.ref w_PARENT_OVERRIDES), .val (.ref w_INDETERMINATE), .val (.ref w_DENY)] [])) t → Steps p.tables e below (s₁.setTop (entryFrame m #[(.ref w_PARENT_OVERRIDES), (.ref w_INDETERMINATE), (.ref w_DENY)] 3)) t := fun t k => castTop (by first | (simp [entryFrame, mkF, argsToLocals, Value.category]; done) | rfl) k
  obtain ⟨cq1, kq1, q1a, q1b, q1c⟩ := isOf hZ e0 E_w_PARENT_OVERRIDES
  obtain ⟨_, _, ⟨T1, L1, k1, n1⟩, -, X1, ⟨Lc1, hQ1, l1, y1, z1⟩, st1⟩ := X0.virtualBackUp hx (x := (⟨"com/example/tributary/tributary/AccessList$InheritanceType", "ordinal", "()I"⟩ : MethodName)) (y := (⟨"java/lang/Enum", "ordinal", "()I"⟩ : MethodName)) (owner := "java/lang/Enum") hown (mvT hZ (hw _ (List.mem_of_getElem? (i := 27) rfl))) (mvT hZ (hw _ (List.mem_of_getElem? (i := 28) rfl))) (mvT hZ (hw _ (List.mem_of_getElem? (i := 29) rfl))) (by decide) (mvT hZ (hw _ (List.mem_of_getElem? (i := 31) rfl))) (mvT hZ (hw _ (List.mem_of_getElem? (i := 30) rfl))) (backOf (W := 0) (rm2_w_PARENT_OVERRIDES l Z a0 hw [] w_PARENT_OVERRIDES h0 n0 Z0 F_ordinal_w_PARENT_OVERRIDES) hZ (hw _ (List.mem_of_getElem? (i := 33) rfl)) (hw _ (List.mem_of_getElem? (i := 32) rfl)) (by decide) (by decide)) q1a q1c (g := (mkF m 1 #[.val (.ref w_PARENT_OVERRIDES), .val (.ref w_INDETERMINATE), .val (.ref w_DENY)] [(.ref w_PARENT_OVERRIDES)])) rfl (by rw [hml]; rfl) (Steps.refl _) (argsL := []) (rest := []) (lenOf pd___I rfl) rfl (by show 2 * 0 + _ ≤ _; exact Nat.le_of_eq rfl) (hb hby d1_1) (fun _ _ => ⟨rfl, e0, (by decide : 0 + 0 ≤ _), (by decide : 0 + 0 ≤ _)⟩)
  dsimp only [Pt.U, Pt.locs, Pt.cells, Pt.slots] at X1 l1 y1 z1 st1 hQ1
  subst l1 y1 z1
  obtain ⟨rfl, N1q, e1⟩ := hQ1
  have N1 := Fr.app N0 N1q
  obtain ⟨T2, X2, e2, st2⟩ := getS2 X1 hx hZ hown (host := "") (Or.inl (hw _ (List.mem_of_getElem? (i := 36) rfl))) Via.refl e1 S_INDETERMINATE (g := (mkF m 62 #[.val (.ref w_PARENT_OVERRIDES), .val (.ref w_INDETERMINATE), .val (.ref w_DENY)] [(.ref w_INDETERMINATE)])) rfl (hb hby d1_62)
  obtain ⟨fs, hr, hrun, hended, hW, hsame⟩ := X2.leave (v := some (.ref w_DENY)) (fun h => by rw [Bd.returns] at h; cases h)
  refine ⟨_, _, pre0 _ ?_, hrun, hended, _, _, rfl, ?_, ⟨_, rfl⟩, hW, hsame.mono (by decide) (by decide)⟩
  · show Steps p.tables e below (s₁.setTop (mkF m 0 #[.val (.ref w_PARENT_OVERRIDES), .val (.ref w_INDETERMINATE), .val (.ref w_DENY)] [])) _
    refine XS.aloadN X0.here hx rfl (hb hby d1_0) rfl rfl ?_
    show Steps p.tables e below (s₁.setTop (mkF m 1 #[.val (.ref w_PARENT_OVERRIDES), .val (.ref w_INDETERMINATE), .val (.ref w_DENY)] [(.ref w_PARENT_OVERRIDES)])) _
    refine st1.trans ?_
    show Steps p.tables e below (T1.setTop (mkF m 4 #[.val (.ref w_PARENT_OVERRIDES), .val (.ref w_INDETERMINATE), .val (.ref w_DENY)] [(.int 1)])) _
    refine XS.tswIn X1.here hx rfl (pc0 := 4) (pc' := 61) rfl (hb hby d1_4) rfl (by decide) (o := 57) (by decide) (by decide) (by decide) ?_
    show Steps p.tables e below (T1.setTop (mkF m 61 #[.val (.ref w_PARENT_OVERRIDES), .val (.ref w_INDETERMINATE), .val (.ref w_DENY)] [])) _
    refine XS.aloadN X1.here hx rfl (hb hby d1_61) rfl rfl ?_
    show Steps p.tables e below (T1.setTop (mkF m 62 #[.val (.ref w_PARENT_OVERRIDES), .val (.ref w_INDETERMINATE), .val (.ref w_DENY)] [(.ref w_INDETERMINATE)])) _
    refine st2 _ ?_
    show Steps p.tables e below (T2.setTop (mkF m 65 #[.val (.ref w_PARENT_OVERRIDES), .val (.ref w_INDETERMINATE), .val (.ref w_DENY)] [(.ref w_INDETERMINATE), (.ref w_INDETERMINATE)])) _
    refine Jvm.RoadKit.acmp (g := (mkF m 65 #[.val (.ref w_PARENT_OVERRIDES), .val (.ref w_INDETERMINATE), .val (.ref w_DENY)] [(.ref w_INDETERMINATE), (.ref w_INDETERMINATE)])) X2 hx rfl rfl rfl (pc0 := 65) (pc' := 68) (same := true) rfl (hb hby d1_65) rfl (decide_eq_true rfl) (by decide) (by decide) ?_
    show Steps p.tables e below (T2.setTop (mkF m 68 #[.val (.ref w_PARENT_OVERRIDES), .val (.ref w_INDETERMINATE), .val (.ref w_DENY)] [])) _
    refine XS.aloadN X2.here hx rfl (hb hby d1_68) rfl rfl ?_
    show Steps p.tables e below (T2.setTop (mkF m 69 #[.val (.ref w_PARENT_OVERRIDES), .val (.ref w_INDETERMINATE), .val (.ref w_DENY)] [(.ref w_DENY)])) _
    refine XS.goto X2.here hx rfl (pc0 := 69) (pc' := 112) rfl (hb hby d1_69) (by decide) (by decide) ?_
    show Steps p.tables e below (T2.setTop (mkF m 112 #[.val (.ref w_PARENT_OVERRIDES), .val (.ref w_INDETERMINATE), .val (.ref w_DENY)] [(.ref w_DENY)])) _
    jvm_step X2.here [X2.here.top, hx, (hb hby d1_112), X2.method', Bd.returns, Value.isRef, FieldType.isReference]
    first | (intro acts; rw [hr _ acts rfl rfl rfl]) | rw [hr _ _ rfl rfl rfl]
    exact Steps.refl _
  · show Q1_w_PARENT_OVERRIDES_w_INDETERMINATE_w_DENY Z w_PARENT_OVERRIDES w_INDETERMINATE w_DENY h0 n0 _ T2.heap _
    rw [e2]
    exact ⟨rfl, N1, rfl⟩
set_option maxRecDepth 65536 in
set_option maxHeartbeats 40000000 in
theorem pc0_k121 {p : Program} {l : Launch} {e : Env} {s : State} {m : MethodId} {args : Array Value} {below : List Frame} {meth : Method} {c : Code} {T0 : State} {locs : List Loc} {Z : State} {a0 : Array Value} {h0 : Heap} {n0 : Nat} (p1 : Int32) (p2 : Int32) (p3 : Int32) (b1 : Addr) (b8 : Addr) (b15 : Addr) (k1 : ClassId) (w_CHILD_OVERRIDES : Addr) (w_PARENT_OVERRIDES : Addr) (w_AND_BOTH_PERMIT : Addr) (k8 : ClassId) (w_PERMIT : Addr) (w_DENY : Addr) (w_INDETERMINATE : Addr) (k15 : ClassId)
    (X0 : Stand p l e room_1 s m args below meth c T0 locs 3 33) (hx : p.tables.exec = Jvm.exec) (hZ : Z.Warmed39 s.vm) (hw : ∀ d ∈ tables_1, d.before a0 Z = true) (hby : c.code = code) (hml : c.maxLocals = 10) (hown : s.vm.findClass "com/example/tributary/tributary/InheritanceTypeCombinePinLaw" = some m.cls) (e0 : T0.heap = h0) (Z0 : n0 ≤ h0.size) (N0 : Fr n0 locs) (V_b1 : Arv Z h0 b1 k1 (.object "com/example/tributary/tributary/AccessList$InheritanceType") (3 : Int32) [(.ref w_CHILD_OVERRIDES), (.ref w_PARENT_OVERRIDES), (.ref w_AND_BOTH_PERMIT)] .null) (V_b8 : Arv Z h0 b8 k8 (.object "com/example/tributary/tributary/AccessList$Decision") (3 : Int32) [(.ref w_PERMIT), (.ref w_DENY), (.ref w_INDETERMINATE)] .null) (F_ordinal_w_PARENT_OVERRIDES : Fld Z h0 w_PARENT_OVERRIDES "java/lang/Enum" "ordinal" "I" (.int 1)) (E_w_PARENT_OVERRIDES : Exa Z h0 w_PARENT_OVERRIDES "com/example/tributary/tributary/AccessList$InheritanceType") (S_INDETERMINATE : Sta Z h0 "com/example/tributary/tributary/AccessList$Decision" "INDETERMINATE" "Lcom/example/tributary/tributary/AccessList$Decision;" (.ref w_INDETERMINATE)) (V_b15 : Arv Z h0 b15 k15 .int (27 : Int32) [(.int 0), (.int 1), (.int 0), (.int 0), (.int 1), (.int 1), (.int 0), (.int 1), (.int 2), (.int 0), (.int 0), (.int 0), (.int 1), (.int 1), (.int 1), (.int 0), (.int 1), (.int 2), (.int 0), (.int 1), (.int 1), (.int 1), (.int 1), (.int 1), (.int 1), (.int 1), (.int 1)] (.int (0 : Int32))) :
    ∃ (T' : State) (L' : List Loc) (Ls : Array Slot), Stand p l e room_1 s m args below meth c T' L' 3 33 ∧ Fr n0 L' ∧ ∀ target, Steps p.tables e below (T'.setTop (mkF m 253 Ls [(.int 1)])) target → Steps p.tables e below (T0.setTop (mkF m 206 #[.val (.int p1), .val (.int p2), .val (.int p3), .val (.int 1), .val (.int 2), .val (.int 1), .val (.ref b1), .val (.ref b8), .val (.ref b15), .unset] [])) target := by
  obtain ⟨cq1, kq1, q1a, q1b, q1c⟩ := isOf hZ e0 E_w_PARENT_OVERRIDES
  obtain ⟨_, _, ⟨T1, L1, k1, n1⟩, -, X1, ⟨Lc1, hQ1, l1, y1, z1⟩, st1⟩ := X0.virtualBack hx (y := (⟨"com/example/tributary/tributary/AccessList$InheritanceType", "combine", "(Lcom/example/tributary/tributary/AccessList$Decision;Lcom/example/tributary/tributary/AccessList$Decision;)Lcom/example/tributary/tributary/AccessList$Decision;"⟩ : MethodName)) (z := (⟨"com/example/tributary/tributary/AccessList$InheritanceType", "combine", "(Lcom/example/tributary/tributary/AccessList$Decision;Lcom/example/tributary/tributary/AccessList$Decision;)Lcom/example/tributary/tributary/AccessList$Decision;"⟩ : MethodName)) hown (mvT hZ (hw _ (List.mem_of_getElem? (i := 22) rfl))) (mvT hZ (hw _ (List.mem_of_getElem? (i := 23) rfl))) (notFace_of_selects (args := #[]) (mvT hZ (hw _ (List.mem_of_getElem? (i := 25) rfl)))) (mvT hZ (hw _ (List.mem_of_getElem? (i := 25) rfl))) (mvT hZ (hw _ (List.mem_of_getElem? (i := 24) rfl))) (by decide) (backOf (W := 0) (rm1_w_PARENT_OVERRIDES_w_INDETERMINATE_w_DENY l Z a0 hw [] w_PARENT_OVERRIDES w_INDETERMINATE w_DENY h0 n0 Z0 F_ordinal_w_PARENT_OVERRIDES E_w_PARENT_OVERRIDES S_INDETERMINATE) hZ (hw _ (List.mem_of_getElem? (i := 26) rfl)) (hw _ (List.mem_of_getElem? (i := 4) rfl)) (by decide) (by decide)) q1a q1c (g := (mkF m 220 #[.val (.int p1), .val (.int p2), .val (.int p3), .val (.int 1), .val (.int 2), .val (.int 1), .val (.ref b1), .val (.ref b8), .val (.ref b15), .unset] [(.ref w_DENY), (.ref w_INDETERMINATE), (.ref w_PARENT_OVERRIDES)])) rfl (by rw [hml]; rfl) (Steps.refl _) (argsL := [(.ref w_INDETERMINATE), (.ref w_DENY)]) (rest := []) (lenOf pd__Lcom_example_tributary_tributary_AccessList_Decision_Lcom_example_tributary_tributary_AccessList_Decision__Lcom_example_tributary_tributary_AccessList_Decision_ rfl) rfl (by show 2 * 0 + _ ≤ _; exact Nat.le_of_eq rfl) (hb hby at_220) (fun _ _ => ⟨rfl, e0, (by decide : 3 + 0 ≤ _), (by decide : 33 + 0 ≤ _)⟩)
  dsimp only [Pt.U, Pt.locs, Pt.cells, Pt.slots] at X1 l1 y1 z1 st1 hQ1
  subst l1 y1 z1
  obtain ⟨rfl, N1q, e1⟩ := hQ1
  have N1 := Fr.app N0 N1q
  refine ⟨T1, _, #[.val (.int p1), .val (.int p2), .val (.int p3), .val (.int 1), .val (.int 2), .val (.int 1), .val (.ref b1), .val (.ref b8), .val (.ref b15), .val (.ref w_DENY)], X1, N1, fun target kt => ?_⟩
  show Steps p.tables e below (T0.setTop (mkF m 206 #[.val (.int p1), .val (.int p2), .val (.int p3), .val (.int 1), .val (.int 2), .val (.int 1), .val (.ref b1), .val (.ref b8), .val (.ref b15), .unset] [])) _
  refine XS.aload X0.here hx rfl (hb hby at_206) rfl rfl ?_
  show Steps p.tables e below (T0.setTop (mkF m 208 #[.val (.int p1), .val (.int p2), .val (.int p3), .val (.int 1), .val (.int 2), .val (.int 1), .val (.ref b1), .val (.ref b8), .val (.ref b15), .unset] [(.ref b1)])) _
  refine XS.iloadN X0.here hx rfl (hb hby at_208) rfl ?_
  show Steps p.tables e below (T0.setTop (mkF m 209 #[.val (.int p1), .val (.int p2), .val (.int p3), .val (.int 1), .val (.int 2), .val (.int 1), .val (.ref b1), .val (.ref b8), .val (.ref b15), .unset] [(.int 1), (.ref b1)])) _
  refine own_ldR X0 hx hZ e0 V_b1 (j := (1 : Int32)) ⟨by decide, by decide⟩ rfl (g := (mkF m 209 #[.val (.int p1), .val (.int p2), .val (.int p3), .val (.int 1), .val (.int 2), .val (.int 1), .val (.ref b1), .val (.ref b8), .val (.ref b15), .unset] [(.int 1), (.ref b1)])) rfl rfl (hb hby at_209) _ ?_
  show Steps p.tables e below (T0.setTop (mkF m 210 #[.val (.int p1), .val (.int p2), .val (.int p3), .val (.int 1), .val (.int 2), .val (.int 1), .val (.ref b1), .val (.ref b8), .val (.ref b15), .unset] [(.ref w_PARENT_OVERRIDES)])) _
  refine XS.aload X0.here hx rfl (hb hby at_210) rfl rfl ?_
  show Steps p.tables e below (T0.setTop (mkF m 212 #[.val (.int p1), .val (.int p2), .val (.int p3), .val (.int 1), .val (.int 2), .val (.int 1), .val (.ref b1), .val (.ref b8), .val (.ref b15), .unset] [(.ref b8), (.ref w_PARENT_OVERRIDES)])) _
  refine XS.iload X0.here hx rfl (hb hby at_212) rfl ?_
  show Steps p.tables e below (T0.setTop (mkF m 214 #[.val (.int p1), .val (.int p2), .val (.int p3), .val (.int 1), .val (.int 2), .val (.int 1), .val (.ref b1), .val (.ref b8), .val (.ref b15), .unset] [(.int 2), (.ref b8), (.ref w_PARENT_OVERRIDES)])) _
  refine own_ldR X0 hx hZ e0 V_b8 (j := (2 : Int32)) ⟨by decide, by decide⟩ rfl (g := (mkF m 214 #[.val (.int p1), .val (.int p2), .val (.int p3), .val (.int 1), .val (.int 2), .val (.int 1), .val (.ref b1), .val (.ref b8), .val (.ref b15), .unset] [(.int 2), (.ref b8), (.ref w_PARENT_OVERRIDES)])) rfl rfl (hb hby at_214) _ ?_
  show Steps p.tables e below (T0.setTop (mkF m 215 #[.val (.int p1), .val (.int p2), .val (.int p3), .val (.int 1), .val (.int 2), .val (.int 1), .val (.ref b1), .val (.ref b8), .val (.ref b15), .unset] [(.ref w_INDETERMINATE), (.ref w_PARENT_OVERRIDES)])) _
  refine XS.aload X0.here hx rfl (hb hby at_215) rfl rfl ?_
  show Steps p.tables e below (T0.setTop (mkF m 217 #[.val (.int p1), .val (.int p2), .val (.int p3), .val (.int 1), .val (.int 2), .val (.int 1), .val (.ref b1), .val (.ref b8), .val (.ref b15), .unset] [(.ref b8), (.ref w_INDETERMINATE), (.ref w_PARENT_OVERRIDES)])) _
  refine XS.iload X0.here hx rfl (hb hby at_217) rfl ?_
  show Steps p.tables e below (T0.setTop (mkF m 219 #[.val (.int p1), .val (.int p2), .val (.int p3), .val (.int 1), .val (.int 2), .val (.int 1), .val (.ref b1), .val (.ref b8), .val (.ref b15), .unset] [(.int 1), (.ref b8), (.ref w_INDETERMINATE), (.ref w_PARENT_OVERRIDES)])) _
  refine own_ldR X0 hx hZ e0 V_b8 (j := (1 : Int32)) ⟨by decide, by decide⟩ rfl (g := (mkF m 219 #[.val (.int p1), .val (.int p2), .val (.int p3), .val (.int 1), .val (.int 2), .val (.int 1), .val (.ref b1), .val (.ref b8), .val (.ref b15), .unset] [(.int 1), (.ref b8), (.ref w_INDETERMINATE), (.ref w_PARENT_OVERRIDES)])) rfl rfl (hb hby at_219) _ ?_
  show Steps p.tables e below (T0.setTop (mkF m 220 #[.val (.int p1), .val (.int p2), .val (.int p3), .val (.int 1), .val (.int 2), .val (.int 1), .val (.ref b1), .val (.ref b8), .val (.ref b15), .unset] [(.ref w_DENY), (.ref w_INDETERMINATE), (.ref w_PARENT_OVERRIDES)])) _
  refine st1.trans ?_
  show Steps p.tables e below (T1.setTop (mkF m 223 #[.val (.int p1), .val (.int p2), .val (.int p3), .val (.int 1), .val (.int 2), .val (.int 1), .val (.ref b1), .val (.ref b8), .val (.ref b15), .unset] [(.ref w_DENY)])) _
  refine XS.astore X1.here hx rfl (hb hby at_223) rfl rfl (l' := #[.val (.int p1), .val (.int p2), .val (.int p3), .val (.int 1), .val (.int 2), .val (.int 1), .val (.ref b1), .val (.ref b8), .val (.ref b15), .val (.ref w_DENY)]) rfl ?_
  show Steps p.tables e below (T1.setTop (mkF m 225 #[.val (.int p1), .val (.int p2), .val (.int p3), .val (.int 1), .val (.int 2), .val (.int 1), .val (.ref b1), .val (.ref b8), .val (.ref b15), .val (.ref w_DENY)] [])) _
  refine XS.aload X1.here hx rfl (hb hby at_225) rfl rfl ?_
  show Steps p.tables e below (T1.setTop (mkF m 227 #[.val (.int p1), .val (.int p2), .val (.int p3), .val (.int 1), .val (.int 2), .val (.int 1), .val (.ref b1), .val (.ref b8), .val (.ref b15), .val (.ref w_DENY)] [(.ref w_DENY)])) _
  refine XS.aload X1.here hx rfl (hb hby at_227) rfl rfl ?_
  show Steps p.tables e below (T1.setTop (mkF m 229 #[.val (.int p1), .val (.int p2), .val (.int p3), .val (.int 1), .val (.int 2), .val (.int 1), .val (.ref b1), .val (.ref b8), .val (.ref b15), .val (.ref w_DENY)] [(.ref b8), (.ref w_DENY)])) _
  refine XS.aload X1.here hx rfl (hb hby at_229) rfl rfl ?_
  show Steps p.tables e below (T1.setTop (mkF m 231 #[.val (.int p1), .val (.int p2), .val (.int p3), .val (.int 1), .val (.int 2), .val (.int 1), .val (.ref b1), .val (.ref b8), .val (.ref b15), .val (.ref w_DENY)] [(.ref b15), (.ref b8), (.ref w_DENY)])) _
  refine XS.iloadN X1.here hx rfl (hb hby at_231) rfl ?_
  show Steps p.tables e below (T1.setTop (mkF m 232 #[.val (.int p1), .val (.int p2), .val (.int p3), .val (.int 1), .val (.int 2), .val (.int 1), .val (.ref b1), .val (.ref b8), .val (.ref b15), .val (.ref w_DENY)] [(.int 1), (.ref b15), (.ref b8), (.ref w_DENY)])) _
  refine XS.bipush X1.here hx rfl (hb hby at_232) ?_
  show Steps p.tables e below (T1.setTop (mkF m 234 #[.val (.int p1), .val (.int p2), .val (.int p3), .val (.int 1), .val (.int 2), .val (.int 1), .val (.ref b1), .val (.ref b8), .val (.ref b15), .val (.ref w_DENY)] [(.int 9), (.int 1), (.ref b15), (.ref b8), (.ref w_DENY)])) _
  refine XS.imul X1.here hx rfl (hb hby at_234) rfl ?_
  show Steps p.tables e below (T1.setTop (mkF m 235 #[.val (.int p1), .val (.int p2), .val (.int p3), .val (.int 1), .val (.int 2), .val (.int 1), .val (.ref b1), .val (.ref b8), .val (.ref b15), .val (.ref w_DENY)] [(.int ((1 : Int32) * (9 : Int32))), (.ref b15), (.ref b8), (.ref w_DENY)])) _
  rw [(by decide : ((1 : Int32) * (9 : Int32)) = (9 : Int32))]
  show Steps p.tables e below (T1.setTop (mkF m 235 #[.val (.int p1), .val (.int p2), .val (.int p3), .val (.int 1), .val (.int 2), .val (.int 1), .val (.ref b1), .val (.ref b8), .val (.ref b15), .val (.ref w_DENY)] [(.int 9), (.ref b15), (.ref b8), (.ref w_DENY)])) _
  refine XS.iload X1.here hx rfl (hb hby at_235) rfl ?_
  show Steps p.tables e below (T1.setTop (mkF m 237 #[.val (.int p1), .val (.int p2), .val (.int p3), .val (.int 1), .val (.int 2), .val (.int 1), .val (.ref b1), .val (.ref b8), .val (.ref b15), .val (.ref w_DENY)] [(.int 2), (.int 9), (.ref b15), (.ref b8), (.ref w_DENY)])) _
  refine XS.iconst X1.here hx rfl (hb hby at_237) ?_
  show Steps p.tables e below (T1.setTop (mkF m 238 #[.val (.int p1), .val (.int p2), .val (.int p3), .val (.int 1), .val (.int 2), .val (.int 1), .val (.ref b1), .val (.ref b8), .val (.ref b15), .val (.ref w_DENY)] [(.int 3), (.int 2), (.int 9), (.ref b15), (.ref b8), (.ref w_DENY)])) _
  refine XS.imul X1.here hx rfl (hb hby at_238) rfl ?_
  show Steps p.tables e below (T1.setTop (mkF m 239 #[.val (.int p1), .val (.int p2), .val (.int p3), .val (.int 1), .val (.int 2), .val (.int 1), .val (.ref b1), .val (.ref b8), .val (.ref b15), .val (.ref w_DENY)] [(.int ((2 : Int32) * (3 : Int32))), (.int 9), (.ref b15), (.ref b8), (.ref w_DENY)])) _
  rw [(by decide : ((2 : Int32) * (3 : Int32)) = (6 : Int32))]
  show Steps p.tables e below (T1.setTop (mkF m 239 #[.val (.int p1), .val (.int p2), .val (.int p3), .val (.int 1), .val (.int 2), .val (.int 1), .val (.ref b1), .val (.ref b8), .val (.ref b15), .val (.ref w_DENY)] [(.int 6), (.int 9), (.ref b15), (.ref b8), (.ref w_DENY)])) _
  refine XS.iadd X1.here hx rfl (hb hby at_239) rfl ?_
  show Steps p.tables e below (T1.setTop (mkF m 240 #[.val (.int p1), .val (.int p2), .val (.int p3), .val (.int 1), .val (.int 2), .val (.int 1), .val (.ref b1), .val (.ref b8), .val (.ref b15), .val (.ref w_DENY)] [(.int ((9 : Int32) + (6 : Int32))), (.ref b15), (.ref b8), (.ref w_DENY)])) _
  rw [(by decide : ((9 : Int32) + (6 : Int32)) = (15 : Int32))]
  show Steps p.tables e below (T1.setTop (mkF m 240 #[.val (.int p1), .val (.int p2), .val (.int p3), .val (.int 1), .val (.int 2), .val (.int 1), .val (.ref b1), .val (.ref b8), .val (.ref b15), .val (.ref w_DENY)] [(.int 15), (.ref b15), (.ref b8), (.ref w_DENY)])) _
  refine XS.iload X1.here hx rfl (hb hby at_240) rfl ?_
  show Steps p.tables e below (T1.setTop (mkF m 242 #[.val (.int p1), .val (.int p2), .val (.int p3), .val (.int 1), .val (.int 2), .val (.int 1), .val (.ref b1), .val (.ref b8), .val (.ref b15), .val (.ref w_DENY)] [(.int 1), (.int 15), (.ref b15), (.ref b8), (.ref w_DENY)])) _
  refine XS.iadd X1.here hx rfl (hb hby at_242) rfl ?_
  show Steps p.tables e below (T1.setTop (mkF m 243 #[.val (.int p1), .val (.int p2), .val (.int p3), .val (.int 1), .val (.int 2), .val (.int 1), .val (.ref b1), .val (.ref b8), .val (.ref b15), .val (.ref w_DENY)] [(.int ((15 : Int32) + (1 : Int32))), (.ref b15), (.ref b8), (.ref w_DENY)])) _
  rw [(by decide : ((15 : Int32) + (1 : Int32)) = (16 : Int32))]
  show Steps p.tables e below (T1.setTop (mkF m 243 #[.val (.int p1), .val (.int p2), .val (.int p3), .val (.int 1), .val (.int 2), .val (.int 1), .val (.ref b1), .val (.ref b8), .val (.ref b15), .val (.ref w_DENY)] [(.int 16), (.ref b15), (.ref b8), (.ref w_DENY)])) _
  refine own_ldI X1 hx hZ e1 V_b15 (j := (16 : Int32)) ⟨by decide, by decide⟩ rfl (g := (mkF m 243 #[.val (.int p1), .val (.int p2), .val (.int p3), .val (.int 1), .val (.int 2), .val (.int 1), .val (.ref b1), .val (.ref b8), .val (.ref b15), .val (.ref w_DENY)] [(.int 16), (.ref b15), (.ref b8), (.ref w_DENY)])) rfl rfl (hb hby at_243) _ ?_
  show Steps p.tables e below (T1.setTop (mkF m 244 #[.val (.int p1), .val (.int p2), .val (.int p3), .val (.int 1), .val (.int 2), .val (.int 1), .val (.ref b1), .val (.ref b8), .val (.ref b15), .val (.ref w_DENY)] [(.int 1), (.ref b8), (.ref w_DENY)])) _
  refine own_ldR X1 hx hZ e1 V_b8 (j := (1 : Int32)) ⟨by decide, by decide⟩ rfl (g := (mkF m 244 #[.val (.int p1), .val (.int p2), .val (.int p3), .val (.int 1), .val (.int 2), .val (.int 1), .val (.ref b1), .val (.ref b8), .val (.ref b15), .val (.ref w_DENY)] [(.int 1), (.ref b8), (.ref w_DENY)])) rfl rfl (hb hby at_244) _ ?_
  show Steps p.tables e below (T1.setTop (mkF m 245 #[.val (.int p1), .val (.int p2), .val (.int p3), .val (.int 1), .val (.int 2), .val (.int 1), .val (.ref b1), .val (.ref b8), .val (.ref b15), .val (.ref w_DENY)] [(.ref w_DENY), (.ref w_DENY)])) _
  refine Jvm.RoadKit.acmp (g := (mkF m 245 #[.val (.int p1), .val (.int p2), .val (.int p3), .val (.int 1), .val (.int 2), .val (.int 1), .val (.ref b1), .val (.ref b8), .val (.ref b15), .val (.ref w_DENY)] [(.ref w_DENY), (.ref w_DENY)])) X1 hx rfl rfl rfl (pc0 := 245) (pc' := 248) (same := true) rfl (hb hby at_245) rfl (decide_eq_true rfl) (by decide) (by decide) ?_
  show Steps p.tables e below (T1.setTop (mkF m 248 #[.val (.int p1), .val (.int p2), .val (.int p3), .val (.int 1), .val (.int 2), .val (.int 1), .val (.ref b1), .val (.ref b8), .val (.ref b15), .val (.ref w_DENY)] [])) _
  refine XS.iconst X1.here hx rfl (hb hby at_248) ?_
  show Steps p.tables e below (T1.setTop (mkF m 249 #[.val (.int p1), .val (.int p2), .val (.int p3), .val (.int 1), .val (.int 2), .val (.int 1), .val (.ref b1), .val (.ref b8), .val (.ref b15), .val (.ref w_DENY)] [(.int 1)])) _
  refine XS.goto X1.here hx rfl (pc0 := 249) (pc' := 253) rfl (hb hby at_249) (by decide) (by decide) ?_
  show Steps p.tables e below (T1.setTop (mkF m 253 #[.val (.int p1), .val (.int p2), .val (.int p3), .val (.int 1), .val (.int 2), .val (.int 1), .val (.ref b1), .val (.ref b8), .val (.ref b15), .val (.ref w_DENY)] [(.int 1)])) _
  exact kt
def Q1_w_PARENT_OVERRIDES_w_INDETERMINATE_w_INDETERMINATE (Z : State) (w_PARENT_OVERRIDES : Addr) (w_INDETERMINATE : Addr) (h0 : Heap) (n0 : Nat) (v : Option Value) (h : Heap) (L : List Loc) : Prop := v = some (.ref w_INDETERMINATE) ∧ Fr n0 L ∧ h = h0
set_option maxRecDepth 65536 in
set_option maxHeartbeats 40000000 in
theorem rm1_w_PARENT_OVERRIDES_w_INDETERMINATE_w_INDETERMINATE (l : Launch) (Z : State) (a0 : Array Value) (hw : ∀ d ∈ tables_1, d.before a0 Z = true) (ws : List Jvm.Cond) (w_PARENT_OVERRIDES : Addr) (w_INDETERMINATE : Addr) (h0 : Heap) (n0 : Nat) (Z0 : n0 ≤ h0.size) (F_ordinal_w_PARENT_OVERRIDES : Fld Z h0 w_PARENT_OVERRIDES "java/lang/Enum" "ordinal" "I" (.int 1)) (E_w_PARENT_OVERRIDES : Exa Z h0 w_PARENT_OVERRIDES "com/example/tributary/tributary/AccessList$InheritanceType") (S_INDETERMINATE : Sta Z h0 "com/example/tributary/tributary/AccessList$Decision" "INDETERMINATE" "Lcom/example/tributary/tributary/AccessList$Decision;" (.ref w_INDETERMINATE)) :
    MetFree l (⟨"com/example/tributary/tributary/AccessList$InheritanceType", "combine", "(Lcom/example/tributary/tributary/AccessList$Decision;Lcom/example/tributary/tributary/AccessList$Decision;)Lcom/example/tributary/tributary/AccessList$Decision;"⟩ : MethodName) (head1 (Jvm.Cond.code (⟨"com/example/tributary/tributary/AccessList$InheritanceType", "combine", "(Lcom/example/tributary/tributary/AccessList$Decision;Lcom/example/tributary/tributary/AccessList$Decision;)Lcom/example/tributary/tributary/AccessList$Decision;"⟩ : MethodName) prog_6_method_4_code 3 (some (.object "com/example/tributary/tributary/AccessList$Decision")) :: ws) ({ frames := 1, cells := 0, slots := 0, locals := 12 } : Room)) (fun a U => a = #[(.ref w_PARENT_OVERRIDES), (.ref w_INDETERMINATE), (.ref w_INDETERMINATE)] ∧ Z.Warmed39 U.vm ∧ U.heap = h0) (fun _ _ _ _ _ => True) (fun _ U o U' => ∃ v L, o = .returned v ∧ Q1_w_PARENT_OVERRIDES_w_INDETERMINATE_w_INDETERMINATE Z w_PARENT_OVERRIDES w_INDETERMINATE h0 n0 v U'.heap L ∧ FrameEnd U o U' L ({ frames := 1, cells := 0, slots := 0, locals := 12 } : Room).cells ({ frames := 1, cells := 0, slots := 0, locals := 12 } : Room).slots) := by
  refine MetFree.of_bodySF (plainFor_of_name pn_1) hisR ?_
  intro p e s m args below meth c s₁ Bd hml0 hP hK
  obtain ⟨rfl, hZ, hh⟩ := hP
  have hx := Bd.exec
  have hby := Bd.bytes
  have hml : c.maxLocals = 3 := hml0
  have hown : s.vm.findClass "com/example/tributary/tributary/AccessList$InheritanceType" = some m.cls := findClass_of_methodNamed Bd.named
  have hnm := (name_of_methodNamed Bd.named Bd.method).1
  have X0 : Stand p l e ({ frames := 1, cells := 0, slots := 0, locals := 12 } : Room) s m #[(.ref w_PARENT_OVERRIDES), (.ref w_INDETERMINATE), (.ref w_INDETERMINATE)] below meth c s₁ [] 0 0 := Stand.of_body Bd
  have e0 : s₁.heap = h0 := by rw [← hh, Bd.state]; rfl
  have N0 := Fr.nil n0
  have pre0 : ∀ t, Steps p.tables e below (s₁.setTop (mkF m 0 #[.val (.ref w_PARENT_OVERRIDES), .val (.ref w_INDETERMINATE), .val (.ref w_INDETERMINATE)] [])) t → Steps p.tables e below (s₁.setTop (entryFrame m #[(.ref w_PARENT_OVERRIDES), (.ref w_INDETERMINATE), (.ref w_INDETERMINATE)] 3)) t := fun t k => castTop (by first | (simp [entryFrame, mkF, argsToLocals, Value.category]; done) | rfl) k
  obtain ⟨cq1, kq1, q1a, q1b, q1c⟩ := isOf hZ e0 E_w_PARENT_OVERRIDES
  obtain ⟨_, _, ⟨T1, L1, k1, n1⟩, -, X1, ⟨Lc1, hQ1, l1, y1, z1⟩, st1⟩ := X0.virtualBackUp hx (x := (⟨"com/example/tributary/tributary/AccessList$InheritanceType", "ordinal", "()I"⟩ : MethodName)) (y := (⟨"java/lang/Enum", "ordinal", "()I"⟩ : MethodName)) (owner := "java/lang/Enum") hown (mvT hZ (hw _ (List.mem_of_getElem? (i := 27) rfl))) (mvT hZ (hw _ (List.mem_of_getElem? (i := 28) rfl))) (mvT hZ (hw _ (List.mem_of_getElem? (i := 29) rfl))) (by decide) (mvT hZ (hw _ (List.mem_of_getElem? (i := 31) rfl))) (mvT hZ (hw _ (List.mem_of_getElem? (i := 30) rfl))) (backOf (W := 0) (rm2_w_PARENT_OVERRIDES l Z a0 hw [] w_PARENT_OVERRIDES h0 n0 Z0 F_ordinal_w_PARENT_OVERRIDES) hZ (hw _ (List.mem_of_getElem? (i := 33) rfl)) (hw _ (List.mem_of_getElem? (i := 32) rfl)) (by decide) (by decide)) q1a q1c (g := (mkF m 1 #[.val (.ref w_PARENT_OVERRIDES), .val (.ref w_INDETERMINATE), .val (.ref w_INDETERMINATE)] [(.ref w_PARENT_OVERRIDES)])) rfl (by rw [hml]; rfl) (Steps.refl _) (argsL := []) (rest := []) (lenOf pd___I rfl) rfl (by show 2 * 0 + _ ≤ _; exact Nat.le_of_eq rfl) (hb hby d1_1) (fun _ _ => ⟨rfl, e0, (by decide : 0 + 0 ≤ _), (by decide : 0 + 0 ≤ _)⟩)
  dsimp only [Pt.U, Pt.locs, Pt.cells, Pt.slots] at X1 l1 y1 z1 st1 hQ1
  subst l1 y1 z1
  obtain ⟨rfl, N1q, e1⟩ := hQ1
  have N1 := Fr.app N0 N1q
  obtain ⟨T2, X2, e2, st2⟩ := getS2 X1 hx hZ hown (host := "") (Or.inl (hw _ (List.mem_of_getElem? (i := 36) rfl))) Via.refl e1 S_INDETERMINATE (g := (mkF m 62 #[.val (.ref w_PARENT_OVERRIDES), .val (.ref w_INDETERMINATE), .val (.ref w_INDETERMINATE)] [(.ref w_INDETERMINATE)])) rfl (hb hby d1_62)
  obtain ⟨fs, hr, hrun, hended, hW, hsame⟩ := X2.leave (v := some (.ref w_INDETERMINATE)) (fun h => by rw [Bd.returns] at h; cases h)
  refine ⟨_, _, pre0 _ ?_, hrun, hended, _, _, rfl, ?_, ⟨_, rfl⟩, hW, hsame.mono (by decide) (by decide)⟩
  · show Steps p.tables e below (s₁.setTop (mkF m 0 #[.val (.ref w_PARENT_OVERRIDES), .val (.ref w_INDETERMINATE), .val (.ref w_INDETERMINATE)] [])) _
    refine XS.aloadN X0.here hx rfl (hb hby d1_0) rfl rfl ?_
    show Steps p.tables e below (s₁.setTop (mkF m 1 #[.val (.ref w_PARENT_OVERRIDES), .val (.ref w_INDETERMINATE), .val (.ref w_INDETERMINATE)] [(.ref w_PARENT_OVERRIDES)])) _
    refine st1.trans ?_
    show Steps p.tables e below (T1.setTop (mkF m 4 #[.val (.ref w_PARENT_OVERRIDES), .val (.ref w_INDETERMINATE), .val (.ref w_INDETERMINATE)] [(.int 1)])) _
    refine XS.tswIn X1.here hx rfl (pc0 := 4) (pc' := 61) rfl (hb hby d1_4) rfl (by decide) (o := 57) (by decide) (by decide) (by decide) ?_
    show Steps p.tables e below (T1.setTop (mkF m 61 #[.val (.ref w_PARENT_OVERRIDES), .val (.ref w_INDETERMINATE), .val (.ref w_INDETERMINATE)] [])) _
    refine XS.aloadN X1.here hx rfl (hb hby d1_61) rfl rfl ?_
    show Steps p.tables e below (T1.setTop (mkF m 62 #[.val (.ref w_PARENT_OVERRIDES), .val (.ref w_INDETERMINATE), .val (.ref w_INDETERMINATE)] [(.ref w_INDETERMINATE)])) _
    refine st2 _ ?_
    show Steps p.tables e below (T2.setTop (mkF m 65 #[.val (.ref w_PARENT_OVERRIDES), .val (.ref w_INDETERMINATE), .val (.ref w_INDETERMINATE)] [(.ref w_INDETERMINATE), (.ref w_INDETERMINATE)])) _
    refine Jvm.RoadKit.acmp (g := (mkF m 65 #[.val (.ref w_PARENT_OVERRIDES), .val (.ref w_INDETERMINATE), .val (.ref w_INDETERMINATE)] [(.ref w_INDETERMINATE), (.ref w_INDETERMINATE)])) X2 hx rfl rfl rfl (pc0 := 65) (pc' := 68) (same := true) rfl (hb hby d1_65) rfl (decide_eq_true rfl) (by decide) (by decide) ?_
    show Steps p.tables e below (T2.setTop (mkF m 68 #[.val (.ref w_PARENT_OVERRIDES), .val (.ref w_INDETERMINATE), .val (.ref w_INDETERMINATE)] [])) _
    refine XS.aloadN X2.here hx rfl (hb hby d1_68) rfl rfl ?_
    show Steps p.tables e below (T2.setTop (mkF m 69 #[.val (.ref w_PARENT_OVERRIDES), .val (.ref w_INDETERMINATE), .val (.ref w_INDETERMINATE)] [(.ref w_INDETERMINATE)])) _
    refine XS.goto X2.here hx rfl (pc0 := 69) (pc' := 112) rfl (hb hby d1_69) (by decide) (by decide) ?_
    show Steps p.tables e below (T2.setTop (mkF m 112 #[.val (.ref w_PARENT_OVERRIDES), .val (.ref w_INDETERMINATE), .val (.ref w_INDETERMINATE)] [(.ref w_INDETERMINATE)])) _
    jvm_step X2.here [X2.here.top, hx, (hb hby d1_112), X2.method', Bd.returns, Value.isRef, FieldType.isReference]
    first | (intro acts; rw [hr _ acts rfl rfl rfl]) | rw [hr _ _ rfl rfl rfl]
    exact Steps.refl _
  · show Q1_w_PARENT_OVERRIDES_w_INDETERMINATE_w_INDETERMINATE Z w_PARENT_OVERRIDES w_INDETERMINATE h0 n0 _ T2.heap _
    rw [e2]
    exact ⟨rfl, N1, rfl⟩
set_option maxRecDepth 65536 in
set_option maxHeartbeats 40000000 in
theorem pc0_k122 {p : Program} {l : Launch} {e : Env} {s : State} {m : MethodId} {args : Array Value} {below : List Frame} {meth : Method} {c : Code} {T0 : State} {locs : List Loc} {Z : State} {a0 : Array Value} {h0 : Heap} {n0 : Nat} (p1 : Int32) (p2 : Int32) (p3 : Int32) (b1 : Addr) (b8 : Addr) (b15 : Addr) (k1 : ClassId) (w_CHILD_OVERRIDES : Addr) (w_PARENT_OVERRIDES : Addr) (w_AND_BOTH_PERMIT : Addr) (k8 : ClassId) (w_PERMIT : Addr) (w_DENY : Addr) (w_INDETERMINATE : Addr) (k15 : ClassId)
    (X0 : Stand p l e room_1 s m args below meth c T0 locs 3 33) (hx : p.tables.exec = Jvm.exec) (hZ : Z.Warmed39 s.vm) (hw : ∀ d ∈ tables_1, d.before a0 Z = true) (hby : c.code = code) (hml : c.maxLocals = 10) (hown : s.vm.findClass "com/example/tributary/tributary/InheritanceTypeCombinePinLaw" = some m.cls) (e0 : T0.heap = h0) (Z0 : n0 ≤ h0.size) (N0 : Fr n0 locs) (V_b1 : Arv Z h0 b1 k1 (.object "com/example/tributary/tributary/AccessList$InheritanceType") (3 : Int32) [(.ref w_CHILD_OVERRIDES), (.ref w_PARENT_OVERRIDES), (.ref w_AND_BOTH_PERMIT)] .null) (V_b8 : Arv Z h0 b8 k8 (.object "com/example/tributary/tributary/AccessList$Decision") (3 : Int32) [(.ref w_PERMIT), (.ref w_DENY), (.ref w_INDETERMINATE)] .null) (F_ordinal_w_PARENT_OVERRIDES : Fld Z h0 w_PARENT_OVERRIDES "java/lang/Enum" "ordinal" "I" (.int 1)) (E_w_PARENT_OVERRIDES : Exa Z h0 w_PARENT_OVERRIDES "com/example/tributary/tributary/AccessList$InheritanceType") (S_INDETERMINATE : Sta Z h0 "com/example/tributary/tributary/AccessList$Decision" "INDETERMINATE" "Lcom/example/tributary/tributary/AccessList$Decision;" (.ref w_INDETERMINATE)) (V_b15 : Arv Z h0 b15 k15 .int (27 : Int32) [(.int 0), (.int 1), (.int 0), (.int 0), (.int 1), (.int 1), (.int 0), (.int 1), (.int 2), (.int 0), (.int 0), (.int 0), (.int 1), (.int 1), (.int 1), (.int 0), (.int 1), (.int 2), (.int 0), (.int 1), (.int 1), (.int 1), (.int 1), (.int 1), (.int 1), (.int 1), (.int 1)] (.int (0 : Int32))) :
    ∃ (T' : State) (L' : List Loc) (Ls : Array Slot), Stand p l e room_1 s m args below meth c T' L' 3 33 ∧ Fr n0 L' ∧ ∀ target, Steps p.tables e below (T'.setTop (mkF m 253 Ls [(.int 1)])) target → Steps p.tables e below (T0.setTop (mkF m 206 #[.val (.int p1), .val (.int p2), .val (.int p3), .val (.int 1), .val (.int 2), .val (.int 2), .val (.ref b1), .val (.ref b8), .val (.ref b15), .unset] [])) target := by
  obtain ⟨cq1, kq1, q1a, q1b, q1c⟩ := isOf hZ e0 E_w_PARENT_OVERRIDES
  obtain ⟨_, _, ⟨T1, L1, k1, n1⟩, -, X1, ⟨Lc1, hQ1, l1, y1, z1⟩, st1⟩ := X0.virtualBack hx (y := (⟨"com/example/tributary/tributary/AccessList$InheritanceType", "combine", "(Lcom/example/tributary/tributary/AccessList$Decision;Lcom/example/tributary/tributary/AccessList$Decision;)Lcom/example/tributary/tributary/AccessList$Decision;"⟩ : MethodName)) (z := (⟨"com/example/tributary/tributary/AccessList$InheritanceType", "combine", "(Lcom/example/tributary/tributary/AccessList$Decision;Lcom/example/tributary/tributary/AccessList$Decision;)Lcom/example/tributary/tributary/AccessList$Decision;"⟩ : MethodName)) hown (mvT hZ (hw _ (List.mem_of_getElem? (i := 22) rfl))) (mvT hZ (hw _ (List.mem_of_getElem? (i := 23) rfl))) (notFace_of_selects (args := #[]) (mvT hZ (hw _ (List.mem_of_getElem? (i := 25) rfl)))) (mvT hZ (hw _ (List.mem_of_getElem? (i := 25) rfl))) (mvT hZ (hw _ (List.mem_of_getElem? (i := 24) rfl))) (by decide) (backOf (W := 0) (rm1_w_PARENT_OVERRIDES_w_INDETERMINATE_w_INDETERMINATE l Z a0 hw [] w_PARENT_OVERRIDES w_INDETERMINATE h0 n0 Z0 F_ordinal_w_PARENT_OVERRIDES E_w_PARENT_OVERRIDES S_INDETERMINATE) hZ (hw _ (List.mem_of_getElem? (i := 26) rfl)) (hw _ (List.mem_of_getElem? (i := 4) rfl)) (by decide) (by decide)) q1a q1c (g := (mkF m 220 #[.val (.int p1), .val (.int p2), .val (.int p3), .val (.int 1), .val (.int 2), .val (.int 2), .val (.ref b1), .val (.ref b8), .val (.ref b15), .unset] [(.ref w_INDETERMINATE), (.ref w_INDETERMINATE), (.ref w_PARENT_OVERRIDES)])) rfl (by rw [hml]; rfl) (Steps.refl _) (argsL := [(.ref w_INDETERMINATE), (.ref w_INDETERMINATE)]) (rest := []) (lenOf pd__Lcom_example_tributary_tributary_AccessList_Decision_Lcom_example_tributary_tributary_AccessList_Decision__Lcom_example_tributary_tributary_AccessList_Decision_ rfl) rfl (by show 2 * 0 + _ ≤ _; exact Nat.le_of_eq rfl) (hb hby at_220) (fun _ _ => ⟨rfl, e0, (by decide : 3 + 0 ≤ _), (by decide : 33 + 0 ≤ _)⟩)
  dsimp only [Pt.U, Pt.locs, Pt.cells, Pt.slots] at X1 l1 y1 z1 st1 hQ1
  subst l1 y1 z1
  obtain ⟨rfl, N1q, e1⟩ := hQ1
  have N1 := Fr.app N0 N1q
  refine ⟨T1, _, #[.val (.int p1), .val (.int p2), .val (.int p3), .val (.int 1), .val (.int 2), .val (.int 2), .val (.ref b1), .val (.ref b8), .val (.ref b15), .val (.ref w_INDETERMINATE)], X1, N1, fun target kt => ?_⟩
  show Steps p.tables e below (T0.setTop (mkF m 206 #[.val (.int p1), .val (.int p2), .val (.int p3), .val (.int 1), .val (.int 2), .val (.int 2), .val (.ref b1), .val (.ref b8), .val (.ref b15), .unset] [])) _
  refine XS.aload X0.here hx rfl (hb hby at_206) rfl rfl ?_
  show Steps p.tables e below (T0.setTop (mkF m 208 #[.val (.int p1), .val (.int p2), .val (.int p3), .val (.int 1), .val (.int 2), .val (.int 2), .val (.ref b1), .val (.ref b8), .val (.ref b15), .unset] [(.ref b1)])) _
  refine XS.iloadN X0.here hx rfl (hb hby at_208) rfl ?_
  show Steps p.tables e below (T0.setTop (mkF m 209 #[.val (.int p1), .val (.int p2), .val (.int p3), .val (.int 1), .val (.int 2), .val (.int 2), .val (.ref b1), .val (.ref b8), .val (.ref b15), .unset] [(.int 1), (.ref b1)])) _
  refine own_ldR X0 hx hZ e0 V_b1 (j := (1 : Int32)) ⟨by decide, by decide⟩ rfl (g := (mkF m 209 #[.val (.int p1), .val (.int p2), .val (.int p3), .val (.int 1), .val (.int 2), .val (.int 2), .val (.ref b1), .val (.ref b8), .val (.ref b15), .unset] [(.int 1), (.ref b1)])) rfl rfl (hb hby at_209) _ ?_
  show Steps p.tables e below (T0.setTop (mkF m 210 #[.val (.int p1), .val (.int p2), .val (.int p3), .val (.int 1), .val (.int 2), .val (.int 2), .val (.ref b1), .val (.ref b8), .val (.ref b15), .unset] [(.ref w_PARENT_OVERRIDES)])) _
  refine XS.aload X0.here hx rfl (hb hby at_210) rfl rfl ?_
  show Steps p.tables e below (T0.setTop (mkF m 212 #[.val (.int p1), .val (.int p2), .val (.int p3), .val (.int 1), .val (.int 2), .val (.int 2), .val (.ref b1), .val (.ref b8), .val (.ref b15), .unset] [(.ref b8), (.ref w_PARENT_OVERRIDES)])) _
  refine XS.iload X0.here hx rfl (hb hby at_212) rfl ?_
  show Steps p.tables e below (T0.setTop (mkF m 214 #[.val (.int p1), .val (.int p2), .val (.int p3), .val (.int 1), .val (.int 2), .val (.int 2), .val (.ref b1), .val (.ref b8), .val (.ref b15), .unset] [(.int 2), (.ref b8), (.ref w_PARENT_OVERRIDES)])) _
  refine own_ldR X0 hx hZ e0 V_b8 (j := (2 : Int32)) ⟨by decide, by decide⟩ rfl (g := (mkF m 214 #[.val (.int p1), .val (.int p2), .val (.int p3), .val (.int 1), .val (.int 2), .val (.int 2), .val (.ref b1), .val (.ref b8), .val (.ref b15), .unset] [(.int 2), (.ref b8), (.ref w_PARENT_OVERRIDES)])) rfl rfl (hb hby at_214) _ ?_
  show Steps p.tables e below (T0.setTop (mkF m 215 #[.val (.int p1), .val (.int p2), .val (.int p3), .val (.int 1), .val (.int 2), .val (.int 2), .val (.ref b1), .val (.ref b8), .val (.ref b15), .unset] [(.ref w_INDETERMINATE), (.ref w_PARENT_OVERRIDES)])) _
  refine XS.aload X0.here hx rfl (hb hby at_215) rfl rfl ?_
  show Steps p.tables e below (T0.setTop (mkF m 217 #[.val (.int p1), .val (.int p2), .val (.int p3), .val (.int 1), .val (.int 2), .val (.int 2), .val (.ref b1), .val (.ref b8), .val (.ref b15), .unset] [(.ref b8), (.ref w_INDETERMINATE), (.ref w_PARENT_OVERRIDES)])) _
  refine XS.iload X0.here hx rfl (hb hby at_217) rfl ?_
  show Steps p.tables e below (T0.setTop (mkF m 219 #[.val (.int p1), .val (.int p2), .val (.int p3), .val (.int 1), .val (.int 2), .val (.int 2), .val (.ref b1), .val (.ref b8), .val (.ref b15), .unset] [(.int 2), (.ref b8), (.ref w_INDETERMINATE), (.ref w_PARENT_OVERRIDES)])) _
  refine own_ldR X0 hx hZ e0 V_b8 (j := (2 : Int32)) ⟨by decide, by decide⟩ rfl (g := (mkF m 219 #[.val (.int p1), .val (.int p2), .val (.int p3), .val (.int 1), .val (.int 2), .val (.int 2), .val (.ref b1), .val (.ref b8), .val (.ref b15), .unset] [(.int 2), (.ref b8), (.ref w_INDETERMINATE), (.ref w_PARENT_OVERRIDES)])) rfl rfl (hb hby at_219) _ ?_
  show Steps p.tables e below (T0.setTop (mkF m 220 #[.val (.int p1), .val (.int p2), .val (.int p3), .val (.int 1), .val (.int 2), .val (.int 2), .val (.ref b1), .val (.ref b8), .val (.ref b15), .unset] [(.ref w_INDETERMINATE), (.ref w_INDETERMINATE), (.ref w_PARENT_OVERRIDES)])) _
  refine st1.trans ?_
  show Steps p.tables e below (T1.setTop (mkF m 223 #[.val (.int p1), .val (.int p2), .val (.int p3), .val (.int 1), .val (.int 2), .val (.int 2), .val (.ref b1), .val (.ref b8), .val (.ref b15), .unset] [(.ref w_INDETERMINATE)])) _
  refine XS.astore X1.here hx rfl (hb hby at_223) rfl rfl (l' := #[.val (.int p1), .val (.int p2), .val (.int p3), .val (.int 1), .val (.int 2), .val (.int 2), .val (.ref b1), .val (.ref b8), .val (.ref b15), .val (.ref w_INDETERMINATE)]) rfl ?_
  show Steps p.tables e below (T1.setTop (mkF m 225 #[.val (.int p1), .val (.int p2), .val (.int p3), .val (.int 1), .val (.int 2), .val (.int 2), .val (.ref b1), .val (.ref b8), .val (.ref b15), .val (.ref w_INDETERMINATE)] [])) _
  refine XS.aload X1.here hx rfl (hb hby at_225) rfl rfl ?_
  show Steps p.tables e below (T1.setTop (mkF m 227 #[.val (.int p1), .val (.int p2), .val (.int p3), .val (.int 1), .val (.int 2), .val (.int 2), .val (.ref b1), .val (.ref b8), .val (.ref b15), .val (.ref w_INDETERMINATE)] [(.ref w_INDETERMINATE)])) _
  refine XS.aload X1.here hx rfl (hb hby at_227) rfl rfl ?_
  show Steps p.tables e below (T1.setTop (mkF m 229 #[.val (.int p1), .val (.int p2), .val (.int p3), .val (.int 1), .val (.int 2), .val (.int 2), .val (.ref b1), .val (.ref b8), .val (.ref b15), .val (.ref w_INDETERMINATE)] [(.ref b8), (.ref w_INDETERMINATE)])) _
  refine XS.aload X1.here hx rfl (hb hby at_229) rfl rfl ?_
  show Steps p.tables e below (T1.setTop (mkF m 231 #[.val (.int p1), .val (.int p2), .val (.int p3), .val (.int 1), .val (.int 2), .val (.int 2), .val (.ref b1), .val (.ref b8), .val (.ref b15), .val (.ref w_INDETERMINATE)] [(.ref b15), (.ref b8), (.ref w_INDETERMINATE)])) _
  refine XS.iloadN X1.here hx rfl (hb hby at_231) rfl ?_
  show Steps p.tables e below (T1.setTop (mkF m 232 #[.val (.int p1), .val (.int p2), .val (.int p3), .val (.int 1), .val (.int 2), .val (.int 2), .val (.ref b1), .val (.ref b8), .val (.ref b15), .val (.ref w_INDETERMINATE)] [(.int 1), (.ref b15), (.ref b8), (.ref w_INDETERMINATE)])) _
  refine XS.bipush X1.here hx rfl (hb hby at_232) ?_
  show Steps p.tables e below (T1.setTop (mkF m 234 #[.val (.int p1), .val (.int p2), .val (.int p3), .val (.int 1), .val (.int 2), .val (.int 2), .val (.ref b1), .val (.ref b8), .val (.ref b15), .val (.ref w_INDETERMINATE)] [(.int 9), (.int 1), (.ref b15), (.ref b8), (.ref w_INDETERMINATE)])) _
  refine XS.imul X1.here hx rfl (hb hby at_234) rfl ?_
  show Steps p.tables e below (T1.setTop (mkF m 235 #[.val (.int p1), .val (.int p2), .val (.int p3), .val (.int 1), .val (.int 2), .val (.int 2), .val (.ref b1), .val (.ref b8), .val (.ref b15), .val (.ref w_INDETERMINATE)] [(.int ((1 : Int32) * (9 : Int32))), (.ref b15), (.ref b8), (.ref w_INDETERMINATE)])) _
  rw [(by decide : ((1 : Int32) * (9 : Int32)) = (9 : Int32))]
  show Steps p.tables e below (T1.setTop (mkF m 235 #[.val (.int p1), .val (.int p2), .val (.int p3), .val (.int 1), .val (.int 2), .val (.int 2), .val (.ref b1), .val (.ref b8), .val (.ref b15), .val (.ref w_INDETERMINATE)] [(.int 9), (.ref b15), (.ref b8), (.ref w_INDETERMINATE)])) _
  refine XS.iload X1.here hx rfl (hb hby at_235) rfl ?_
  show Steps p.tables e below (T1.setTop (mkF m 237 #[.val (.int p1), .val (.int p2), .val (.int p3), .val (.int 1), .val (.int 2), .val (.int 2), .val (.ref b1), .val (.ref b8), .val (.ref b15), .val (.ref w_INDETERMINATE)] [(.int 2), (.int 9), (.ref b15), (.ref b8), (.ref w_INDETERMINATE)])) _
  refine XS.iconst X1.here hx rfl (hb hby at_237) ?_
  show Steps p.tables e below (T1.setTop (mkF m 238 #[.val (.int p1), .val (.int p2), .val (.int p3), .val (.int 1), .val (.int 2), .val (.int 2), .val (.ref b1), .val (.ref b8), .val (.ref b15), .val (.ref w_INDETERMINATE)] [(.int 3), (.int 2), (.int 9), (.ref b15), (.ref b8), (.ref w_INDETERMINATE)])) _
  refine XS.imul X1.here hx rfl (hb hby at_238) rfl ?_
  show Steps p.tables e below (T1.setTop (mkF m 239 #[.val (.int p1), .val (.int p2), .val (.int p3), .val (.int 1), .val (.int 2), .val (.int 2), .val (.ref b1), .val (.ref b8), .val (.ref b15), .val (.ref w_INDETERMINATE)] [(.int ((2 : Int32) * (3 : Int32))), (.int 9), (.ref b15), (.ref b8), (.ref w_INDETERMINATE)])) _
  rw [(by decide : ((2 : Int32) * (3 : Int32)) = (6 : Int32))]
  show Steps p.tables e below (T1.setTop (mkF m 239 #[.val (.int p1), .val (.int p2), .val (.int p3), .val (.int 1), .val (.int 2), .val (.int 2), .val (.ref b1), .val (.ref b8), .val (.ref b15), .val (.ref w_INDETERMINATE)] [(.int 6), (.int 9), (.ref b15), (.ref b8), (.ref w_INDETERMINATE)])) _
  refine XS.iadd X1.here hx rfl (hb hby at_239) rfl ?_
  show Steps p.tables e below (T1.setTop (mkF m 240 #[.val (.int p1), .val (.int p2), .val (.int p3), .val (.int 1), .val (.int 2), .val (.int 2), .val (.ref b1), .val (.ref b8), .val (.ref b15), .val (.ref w_INDETERMINATE)] [(.int ((9 : Int32) + (6 : Int32))), (.ref b15), (.ref b8), (.ref w_INDETERMINATE)])) _
  rw [(by decide : ((9 : Int32) + (6 : Int32)) = (15 : Int32))]
  show Steps p.tables e below (T1.setTop (mkF m 240 #[.val (.int p1), .val (.int p2), .val (.int p3), .val (.int 1), .val (.int 2), .val (.int 2), .val (.ref b1), .val (.ref b8), .val (.ref b15), .val (.ref w_INDETERMINATE)] [(.int 15), (.ref b15), (.ref b8), (.ref w_INDETERMINATE)])) _
  refine XS.iload X1.here hx rfl (hb hby at_240) rfl ?_
  show Steps p.tables e below (T1.setTop (mkF m 242 #[.val (.int p1), .val (.int p2), .val (.int p3), .val (.int 1), .val (.int 2), .val (.int 2), .val (.ref b1), .val (.ref b8), .val (.ref b15), .val (.ref w_INDETERMINATE)] [(.int 2), (.int 15), (.ref b15), (.ref b8), (.ref w_INDETERMINATE)])) _
  refine XS.iadd X1.here hx rfl (hb hby at_242) rfl ?_
  show Steps p.tables e below (T1.setTop (mkF m 243 #[.val (.int p1), .val (.int p2), .val (.int p3), .val (.int 1), .val (.int 2), .val (.int 2), .val (.ref b1), .val (.ref b8), .val (.ref b15), .val (.ref w_INDETERMINATE)] [(.int ((15 : Int32) + (2 : Int32))), (.ref b15), (.ref b8), (.ref w_INDETERMINATE)])) _
  rw [(by decide : ((15 : Int32) + (2 : Int32)) = (17 : Int32))]
  show Steps p.tables e below (T1.setTop (mkF m 243 #[.val (.int p1), .val (.int p2), .val (.int p3), .val (.int 1), .val (.int 2), .val (.int 2), .val (.ref b1), .val (.ref b8), .val (.ref b15), .val (.ref w_INDETERMINATE)] [(.int 17), (.ref b15), (.ref b8), (.ref w_INDETERMINATE)])) _
  refine own_ldI X1 hx hZ e1 V_b15 (j := (17 : Int32)) ⟨by decide, by decide⟩ rfl (g := (mkF m 243 #[.val (.int p1), .val (.int p2), .val (.int p3), .val (.int 1), .val (.int 2), .val (.int 2), .val (.ref b1), .val (.ref b8), .val (.ref b15), .val (.ref w_INDETERMINATE)] [(.int 17), (.ref b15), (.ref b8), (.ref w_INDETERMINATE)])) rfl rfl (hb hby at_243) _ ?_
  show Steps p.tables e below (T1.setTop (mkF m 244 #[.val (.int p1), .val (.int p2), .val (.int p3), .val (.int 1), .val (.int 2), .val (.int 2), .val (.ref b1), .val (.ref b8), .val (.ref b15), .val (.ref w_INDETERMINATE)] [(.int 2), (.ref b8), (.ref w_INDETERMINATE)])) _
  refine own_ldR X1 hx hZ e1 V_b8 (j := (2 : Int32)) ⟨by decide, by decide⟩ rfl (g := (mkF m 244 #[.val (.int p1), .val (.int p2), .val (.int p3), .val (.int 1), .val (.int 2), .val (.int 2), .val (.ref b1), .val (.ref b8), .val (.ref b15), .val (.ref w_INDETERMINATE)] [(.int 2), (.ref b8), (.ref w_INDETERMINATE)])) rfl rfl (hb hby at_244) _ ?_
  show Steps p.tables e below (T1.setTop (mkF m 245 #[.val (.int p1), .val (.int p2), .val (.int p3), .val (.int 1), .val (.int 2), .val (.int 2), .val (.ref b1), .val (.ref b8), .val (.ref b15), .val (.ref w_INDETERMINATE)] [(.ref w_INDETERMINATE), (.ref w_INDETERMINATE)])) _
  refine Jvm.RoadKit.acmp (g := (mkF m 245 #[.val (.int p1), .val (.int p2), .val (.int p3), .val (.int 1), .val (.int 2), .val (.int 2), .val (.ref b1), .val (.ref b8), .val (.ref b15), .val (.ref w_INDETERMINATE)] [(.ref w_INDETERMINATE), (.ref w_INDETERMINATE)])) X1 hx rfl rfl rfl (pc0 := 245) (pc' := 248) (same := true) rfl (hb hby at_245) rfl (decide_eq_true rfl) (by decide) (by decide) ?_
  show Steps p.tables e below (T1.setTop (mkF m 248 #[.val (.int p1), .val (.int p2), .val (.int p3), .val (.int 1), .val (.int 2), .val (.int 2), .val (.ref b1), .val (.ref b8), .val (.ref b15), .val (.ref w_INDETERMINATE)] [])) _
  refine XS.iconst X1.here hx rfl (hb hby at_248) ?_
  show Steps p.tables e below (T1.setTop (mkF m 249 #[.val (.int p1), .val (.int p2), .val (.int p3), .val (.int 1), .val (.int 2), .val (.int 2), .val (.ref b1), .val (.ref b8), .val (.ref b15), .val (.ref w_INDETERMINATE)] [(.int 1)])) _
  refine XS.goto X1.here hx rfl (pc0 := 249) (pc' := 253) rfl (hb hby at_249) (by decide) (by decide) ?_
  show Steps p.tables e below (T1.setTop (mkF m 253 #[.val (.int p1), .val (.int p2), .val (.int p3), .val (.int 1), .val (.int 2), .val (.int 2), .val (.ref b1), .val (.ref b8), .val (.ref b15), .val (.ref w_INDETERMINATE)] [(.int 1)])) _
  exact kt
def Q2_w_AND_BOTH_PERMIT (Z : State) (w_AND_BOTH_PERMIT : Addr) (h0 : Heap) (n0 : Nat) (v : Option Value) (h : Heap) (L : List Loc) : Prop := v = some (.int 2) ∧ Fr n0 L ∧ h = h0
set_option maxRecDepth 65536 in
set_option maxHeartbeats 40000000 in
theorem rm2_w_AND_BOTH_PERMIT (l : Launch) (Z : State) (a0 : Array Value) (hw : ∀ d ∈ tables_1, d.before a0 Z = true) (ws : List Jvm.Cond) (w_AND_BOTH_PERMIT : Addr) (h0 : Heap) (n0 : Nat) (Z0 : n0 ≤ h0.size) (F_ordinal_w_AND_BOTH_PERMIT : Fld Z h0 w_AND_BOTH_PERMIT "java/lang/Enum" "ordinal" "I" (.int 2)) :
    MetFree l (⟨"java/lang/Enum", "ordinal", "()I"⟩ : MethodName) (head1 (Jvm.Cond.code (⟨"java/lang/Enum", "ordinal", "()I"⟩ : MethodName) jdk_37_method_2_code 1 (some .int) :: ws) ({ frames := 0, cells := 0, slots := 0, locals := 0 } : Room)) (fun a U => a = #[(.ref w_AND_BOTH_PERMIT)] ∧ Z.Warmed39 U.vm ∧ U.heap = h0) (fun _ _ _ _ _ => True) (fun _ U o U' => ∃ v L, o = .returned v ∧ Q2_w_AND_BOTH_PERMIT Z w_AND_BOTH_PERMIT h0 n0 v U'.heap L ∧ FrameEnd U o U' L ({ frames := 0, cells := 0, slots := 0, locals := 0 } : Room).cells ({ frames := 0, cells := 0, slots := 0, locals := 0 } : Room).slots) := by
  refine MetFree.of_bodySF (plainFor_of_name pn_2) hisR ?_
  intro p e s m args below meth c s₁ Bd hml0 hP hK
  obtain ⟨rfl, hZ, hh⟩ := hP
  have hx := Bd.exec
  have hby := Bd.bytes
  have hml : c.maxLocals = 1 := hml0
  have hown : s.vm.findClass "java/lang/Enum" = some m.cls := findClass_of_methodNamed Bd.named
  have hnm := (name_of_methodNamed Bd.named Bd.method).1
  have X0 : Stand p l e ({ frames := 0, cells := 0, slots := 0, locals := 0 } : Room) s m #[(.ref w_AND_BOTH_PERMIT)] below meth c s₁ [] 0 0 := Stand.of_body Bd
  have e0 : s₁.heap = h0 := by rw [← hh, Bd.state]; rfl
  have N0 := Fr.nil n0
  have pre0 : ∀ t, Steps p.tables e below (s₁.setTop (mkF m 0 #[.val (.ref w_AND_BOTH_PERMIT)] [])) t → Steps p.tables e below (s₁.setTop (entryFrame m #[(.ref w_AND_BOTH_PERMIT)] 1)) t := fun t k => castTop (by first | (simp [entryFrame, mkF, argsToLocals, Value.category]; done) | rfl) k
  obtain ⟨T1, X1, e1, st1⟩ := getF X0 hx hZ hown (host := "") (Or.inl (hw _ (List.mem_of_getElem? (i := 34) rfl))) Via.refl e0 F_ordinal_w_AND_BOTH_PERMIT (g := (mkF m 1 #[.val (.ref w_AND_BOTH_PERMIT)] [(.ref w_AND_BOTH_PERMIT)])) rfl rfl (hb hby d2_1)
  obtain ⟨fs, hr, hrun, hended, hW, hsame⟩ := X1.leave (v := some (.int 2)) (fun h => by rw [Bd.returns] at h; cases h)
  refine ⟨_, _, pre0 _ ?_, hrun, hended, _, _, rfl, ?_, ⟨_, rfl⟩, hW, hsame.mono (by decide) (by decide)⟩
  · show Steps p.tables e below (s₁.setTop (mkF m 0 #[.val (.ref w_AND_BOTH_PERMIT)] [])) _
    refine XS.aloadN X0.here hx rfl (hb hby d2_0) rfl rfl ?_
    show Steps p.tables e below (s₁.setTop (mkF m 1 #[.val (.ref w_AND_BOTH_PERMIT)] [(.ref w_AND_BOTH_PERMIT)])) _
    refine st1 _ ?_
    show Steps p.tables e below (T1.setTop (mkF m 4 #[.val (.ref w_AND_BOTH_PERMIT)] [(.int 2)])) _
    exact retI X1 hx Bd.returns (hb hby d2_4) hr
  · show Q2_w_AND_BOTH_PERMIT Z w_AND_BOTH_PERMIT h0 n0 _ T1.heap _
    rw [e1]
    exact ⟨rfl, N0, rfl⟩
def Q1_w_AND_BOTH_PERMIT_w_PERMIT_w_PERMIT (Z : State) (w_AND_BOTH_PERMIT : Addr) (w_PERMIT : Addr) (h0 : Heap) (n0 : Nat) (v : Option Value) (h : Heap) (L : List Loc) : Prop := v = some (.ref w_PERMIT) ∧ Fr n0 L ∧ h = h0
set_option maxRecDepth 65536 in
set_option maxHeartbeats 40000000 in
theorem rm1_w_AND_BOTH_PERMIT_w_PERMIT_w_PERMIT (l : Launch) (Z : State) (a0 : Array Value) (hw : ∀ d ∈ tables_1, d.before a0 Z = true) (ws : List Jvm.Cond) (w_AND_BOTH_PERMIT : Addr) (w_PERMIT : Addr) (h0 : Heap) (n0 : Nat) (Z0 : n0 ≤ h0.size) (F_ordinal_w_AND_BOTH_PERMIT : Fld Z h0 w_AND_BOTH_PERMIT "java/lang/Enum" "ordinal" "I" (.int 2)) (E_w_AND_BOTH_PERMIT : Exa Z h0 w_AND_BOTH_PERMIT "com/example/tributary/tributary/AccessList$InheritanceType") (S_PERMIT : Sta Z h0 "com/example/tributary/tributary/AccessList$Decision" "PERMIT" "Lcom/example/tributary/tributary/AccessList$Decision;" (.ref w_PERMIT)) :
    MetFree l (⟨"com/example/tributary/tributary/AccessList$InheritanceType", "combine", "(Lcom/example/tributary/tributary/AccessList$Decision;Lcom/example/tributary/tributary/AccessList$Decision;)Lcom/example/tributary/tributary/AccessList$Decision;"⟩ : MethodName) (head1 (Jvm.Cond.code (⟨"com/example/tributary/tributary/AccessList$InheritanceType", "combine", "(Lcom/example/tributary/tributary/AccessList$Decision;Lcom/example/tributary/tributary/AccessList$Decision;)Lcom/example/tributary/tributary/AccessList$Decision;"⟩ : MethodName) prog_6_method_4_code 3 (some (.object "com/example/tributary/tributary/AccessList$Decision")) :: ws) ({ frames := 1, cells := 0, slots := 0, locals := 12 } : Room)) (fun a U => a = #[(.ref w_AND_BOTH_PERMIT), (.ref w_PERMIT), (.ref w_PERMIT)] ∧ Z.Warmed39 U.vm ∧ U.heap = h0) (fun _ _ _ _ _ => True) (fun _ U o U' => ∃ v L, o = .returned v ∧ Q1_w_AND_BOTH_PERMIT_w_PERMIT_w_PERMIT Z w_AND_BOTH_PERMIT w_PERMIT h0 n0 v U'.heap L ∧ FrameEnd U o U' L ({ frames := 1, cells := 0, slots := 0, locals := 12 } : Room).cells ({ frames := 1, cells := 0, slots := 0, locals := 12 } : Room).slots) := by
  refine MetFree.of_bodySF (plainFor_of_name pn_1) hisR ?_
  intro p e s m args below meth c s₁ Bd hml0 hP hK
  obtain ⟨rfl, hZ, hh⟩ := hP
  have hx := Bd.exec
  have hby := Bd.bytes
  have hml : c.maxLocals = 3 := hml0
  have hown : s.vm.findClass "com/example/tributary/tributary/AccessList$InheritanceType" = some m.cls := findClass_of_methodNamed Bd.named
  have hnm := (name_of_methodNamed Bd.named Bd.method).1
  have X0 : Stand p l e ({ frames := 1, cells := 0, slots := 0, locals := 12 } : Room) s m #[(.ref w_AND_BOTH_PERMIT), (.ref w_PERMIT), (.ref w_PERMIT)] below meth c s₁ [] 0 0 := Stand.of_body Bd
  have e0 : s₁.heap = h0 := by rw [← hh, Bd.state]; rfl
  have N0 := Fr.nil n0
  have pre0 : ∀ t, Steps p.tables e below (s₁.setTop (mkF m 0 #[.val (.ref w_AND_BOTH_PERMIT), .val (.ref w_PERMIT), .val (.ref w_PERMIT)] [])) t → Steps p.tables e below (s₁.setTop (entryFrame m #[(.ref w_AND_BOTH_PERMIT), (.ref w_PERMIT), (.ref w_PERMIT)] 3)) t := fun t k => castTop (by first | (simp [entryFrame, mkF, argsToLocals, Value.category]; done) | rfl) k
  obtain ⟨cq1, kq1, q1a, q1b, q1c⟩ := isOf hZ e0 E_w_AND_BOTH_PERMIT
  obtain ⟨_, _, ⟨T1, L1, k1, n1⟩, -, X1, ⟨Lc1, hQ1, l1, y1, z1⟩, st1⟩ := X0.virtualBackUp hx (x := (⟨"com/example/tributary/tributary/AccessList$InheritanceType", "ordinal", "()I"⟩ : MethodName)) (y := (⟨"java/lang/Enum", "ordinal", "()I"⟩ : MethodName)) (owner := "java/lang/Enum") hown (mvT hZ (hw _ (List.mem_of_getElem? (i := 27) rfl))) (mvT hZ (hw _ (List.mem_of_getElem? (i := 28) rfl))) (mvT hZ (hw _ (List.mem_of_getElem? (i := 29) rfl))) (by decide) (mvT hZ (hw _ (List.mem_of_getElem? (i := 31) rfl))) (mvT hZ (hw _ (List.mem_of_getElem? (i := 30) rfl))) (backOf (W := 0) (rm2_w_AND_BOTH_PERMIT l Z a0 hw [] w_AND_BOTH_PERMIT h0 n0 Z0 F_ordinal_w_AND_BOTH_PERMIT) hZ (hw _ (List.mem_of_getElem? (i := 33) rfl)) (hw _ (List.mem_of_getElem? (i := 32) rfl)) (by decide) (by decide)) q1a q1c (g := (mkF m 1 #[.val (.ref w_AND_BOTH_PERMIT), .val (.ref w_PERMIT), .val (.ref w_PERMIT)] [(.ref w_AND_BOTH_PERMIT)])) rfl (by rw [hml]; rfl) (Steps.refl _) (argsL := []) (rest := []) (lenOf pd___I rfl) rfl (by show 2 * 0 + _ ≤ _; exact Nat.le_of_eq rfl) (hb hby d1_1) (fun _ _ => ⟨rfl, e0, (by decide : 0 + 0 ≤ _), (by decide : 0 + 0 ≤ _)⟩)
  dsimp only [Pt.U, Pt.locs, Pt.cells, Pt.slots] at X1 l1 y1 z1 st1 hQ1
  subst l1 y1 z1
  obtain ⟨rfl, N1q, e1⟩ := hQ1
  have N1 := Fr.app N0 N1q
  obtain ⟨T2, X2, e2, st2⟩ := getS2 X1 hx hZ hown (host := "") (Or.inl (hw _ (List.mem_of_getElem? (i := 37) rfl))) Via.refl e1 S_PERMIT (g := (mkF m 77 #[.val (.ref w_AND_BOTH_PERMIT), .val (.ref w_PERMIT), .val (.ref w_PERMIT)] [(.ref w_PERMIT)])) rfl (hb hby d1_77)
  obtain ⟨T3, X3, e3, st3⟩ := getS2 X2 hx hZ hown (host := "") (Or.inl (hw _ (List.mem_of_getElem? (i := 37) rfl))) Via.refl e2 S_PERMIT (g := (mkF m 84 #[.val (.ref w_AND_BOTH_PERMIT), .val (.ref w_PERMIT), .val (.ref w_PERMIT)] [(.ref w_PERMIT)])) rfl (hb hby d1_84)
  obtain ⟨T4, X4, e4, st4⟩ := getS2 X3 hx hZ hown (host := "") (Or.inl (hw _ (List.mem_of_getElem? (i := 37) rfl))) Via.refl e3 S_PERMIT (g := (mkF m 90 #[.val (.ref w_AND_BOTH_PERMIT), .val (.ref w_PERMIT), .val (.ref w_PERMIT)] [])) rfl (hb hby d1_90)
  obtain ⟨fs, hr, hrun, hended, hW, hsame⟩ := X4.leave (v := some (.ref w_PERMIT)) (fun h => by rw [Bd.returns] at h; cases h)
  refine ⟨_, _, pre0 _ ?_, hrun, hended, _, _, rfl, ?_, ⟨_, rfl⟩, hW, hsame.mono (by decide) (by decide)⟩
  · show Steps p.tables e below (s₁.setTop (mkF m 0 #[.val (.ref w_AND_BOTH_PERMIT), .val (.ref w_PERMIT), .val (.ref w_PERMIT)] [])) _
    refine XS.aloadN X0.here hx rfl (hb hby d1_0) rfl rfl ?_
    show Steps p.tables e below (s₁.setTop (mkF m 1 #[.val (.ref w_AND_BOTH_PERMIT), .val (.ref w_PERMIT), .val (.ref w_PERMIT)] [(.ref w_AND_BOTH_PERMIT)])) _
    refine st1.trans ?_
    show Steps p.tables e below (T1.setTop (mkF m 4 #[.val (.ref w_AND_BOTH_PERMIT), .val (.ref w_PERMIT), .val (.ref w_PERMIT)] [(.int 2)])) _
    refine XS.tswIn X1.here hx rfl (pc0 := 4) (pc' := 76) rfl (hb hby d1_4) rfl (by decide) (o := 72) (by decide) (by decide) (by decide) ?_
    show Steps p.tables e below (T1.setTop (mkF m 76 #[.val (.ref w_AND_BOTH_PERMIT), .val (.ref w_PERMIT), .val (.ref w_PERMIT)] [])) _
    refine XS.aloadN X1.here hx rfl (hb hby d1_76) rfl rfl ?_
    show Steps p.tables e below (T1.setTop (mkF m 77 #[.val (.ref w_AND_BOTH_PERMIT), .val (.ref w_PERMIT), .val (.ref w_PERMIT)] [(.ref w_PERMIT)])) _
    refine st2 _ ?_
    show Steps p.tables e below (T2.setTop (mkF m 80 #[.val (.ref w_AND_BOTH_PERMIT), .val (.ref w_PERMIT), .val (.ref w_PERMIT)] [(.ref w_PERMIT), (.ref w_PERMIT)])) _
    refine Jvm.RoadKit.acmp (g := (mkF m 80 #[.val (.ref w_AND_BOTH_PERMIT), .val (.ref w_PERMIT), .val (.ref w_PERMIT)] [(.ref w_PERMIT), (.ref w_PERMIT)])) X2 hx rfl rfl rfl (pc0 := 80) (pc' := 83) (same := true) rfl (hb hby d1_80) rfl (decide_eq_true rfl) (by decide) (by decide) ?_
    show Steps p.tables e below (T2.setTop (mkF m 83 #[.val (.ref w_AND_BOTH_PERMIT), .val (.ref w_PERMIT), .val (.ref w_PERMIT)] [])) _
    refine XS.aloadN X2.here hx rfl (hb hby d1_83) rfl rfl ?_
    show Steps p.tables e below (T2.setTop (mkF m 84 #[.val (.ref w_AND_BOTH_PERMIT), .val (.ref w_PERMIT), .val (.ref w_PERMIT)] [(.ref w_PERMIT)])) _
    refine st3 _ ?_
    show Steps p.tables e below (T3.setTop (mkF m 87 #[.val (.ref w_AND_BOTH_PERMIT), .val (.ref w_PERMIT), .val (.ref w_PERMIT)] [(.ref w_PERMIT), (.ref w_PERMIT)])) _
    refine Jvm.RoadKit.acmp (g := (mkF m 87 #[.val (.ref w_AND_BOTH_PERMIT), .val (.ref w_PERMIT), .val (.ref w_PERMIT)] [(.ref w_PERMIT), (.ref w_PERMIT)])) X3 hx rfl rfl rfl (pc0 := 87) (pc' := 90) (same := true) rfl (hb hby d1_87) rfl (decide_eq_true rfl) (by decide) (by decide) ?_
    show Steps p.tables e below (T3.setTop (mkF m 90 #[.val (.ref w_AND_BOTH_PERMIT), .val (.ref w_PERMIT), .val (.ref w_PERMIT)] [])) _
    refine st4 _ ?_
    show Steps p.tables e below (T4.setTop (mkF m 93 #[.val (.ref w_AND_BOTH_PERMIT), .val (.ref w_PERMIT), .val (.ref w_PERMIT)] [(.ref w_PERMIT)])) _
    refine XS.goto X4.here hx rfl (pc0 := 93) (pc' := 112) rfl (hb hby d1_93) (by decide) (by decide) ?_
    show Steps p.tables e below (T4.setTop (mkF m 112 #[.val (.ref w_AND_BOTH_PERMIT), .val (.ref w_PERMIT), .val (.ref w_PERMIT)] [(.ref w_PERMIT)])) _
    jvm_step X4.here [X4.here.top, hx, (hb hby d1_112), X4.method', Bd.returns, Value.isRef, FieldType.isReference]
    first | (intro acts; rw [hr _ acts rfl rfl rfl]) | rw [hr _ _ rfl rfl rfl]
    exact Steps.refl _
  · show Q1_w_AND_BOTH_PERMIT_w_PERMIT_w_PERMIT Z w_AND_BOTH_PERMIT w_PERMIT h0 n0 _ T4.heap _
    rw [e4]
    exact ⟨rfl, N1, rfl⟩
set_option maxRecDepth 65536 in
set_option maxHeartbeats 40000000 in
theorem pc0_k200 {p : Program} {l : Launch} {e : Env} {s : State} {m : MethodId} {args : Array Value} {below : List Frame} {meth : Method} {c : Code} {T0 : State} {locs : List Loc} {Z : State} {a0 : Array Value} {h0 : Heap} {n0 : Nat} (p1 : Int32) (p2 : Int32) (p3 : Int32) (b1 : Addr) (b8 : Addr) (b15 : Addr) (k1 : ClassId) (w_CHILD_OVERRIDES : Addr) (w_PARENT_OVERRIDES : Addr) (w_AND_BOTH_PERMIT : Addr) (k8 : ClassId) (w_PERMIT : Addr) (w_DENY : Addr) (w_INDETERMINATE : Addr) (k15 : ClassId)
    (X0 : Stand p l e room_1 s m args below meth c T0 locs 3 33) (hx : p.tables.exec = Jvm.exec) (hZ : Z.Warmed39 s.vm) (hw : ∀ d ∈ tables_1, d.before a0 Z = true) (hby : c.code = code) (hml : c.maxLocals = 10) (hown : s.vm.findClass "com/example/tributary/tributary/InheritanceTypeCombinePinLaw" = some m.cls) (e0 : T0.heap = h0) (Z0 : n0 ≤ h0.size) (N0 : Fr n0 locs) (V_b1 : Arv Z h0 b1 k1 (.object "com/example/tributary/tributary/AccessList$InheritanceType") (3 : Int32) [(.ref w_CHILD_OVERRIDES), (.ref w_PARENT_OVERRIDES), (.ref w_AND_BOTH_PERMIT)] .null) (V_b8 : Arv Z h0 b8 k8 (.object "com/example/tributary/tributary/AccessList$Decision") (3 : Int32) [(.ref w_PERMIT), (.ref w_DENY), (.ref w_INDETERMINATE)] .null) (F_ordinal_w_AND_BOTH_PERMIT : Fld Z h0 w_AND_BOTH_PERMIT "java/lang/Enum" "ordinal" "I" (.int 2)) (E_w_AND_BOTH_PERMIT : Exa Z h0 w_AND_BOTH_PERMIT "com/example/tributary/tributary/AccessList$InheritanceType") (S_PERMIT : Sta Z h0 "com/example/tributary/tributary/AccessList$Decision" "PERMIT" "Lcom/example/tributary/tributary/AccessList$Decision;" (.ref w_PERMIT)) (V_b15 : Arv Z h0 b15 k15 .int (27 : Int32) [(.int 0), (.int 1), (.int 0), (.int 0), (.int 1), (.int 1), (.int 0), (.int 1), (.int 2), (.int 0), (.int 0), (.int 0), (.int 1), (.int 1), (.int 1), (.int 0), (.int 1), (.int 2), (.int 0), (.int 1), (.int 1), (.int 1), (.int 1), (.int 1), (.int 1), (.int 1), (.int 1)] (.int (0 : Int32))) :
    ∃ (T' : State) (L' : List Loc) (Ls : Array Slot), Stand p l e room_1 s m args below meth c T' L' 3 33 ∧ Fr n0 L' ∧ ∀ target, Steps p.tables e below (T'.setTop (mkF m 253 Ls [(.int 1)])) target → Steps p.tables e below (T0.setTop (mkF m 206 #[.val (.int p1), .val (.int p2), .val (.int p3), .val (.int 2), .val (.int 0), .val (.int 0), .val (.ref b1), .val (.ref b8), .val (.ref b15), .unset] [])) target := by
  obtain ⟨cq1, kq1, q1a, q1b, q1c⟩ := isOf hZ e0 E_w_AND_BOTH_PERMIT
  obtain ⟨_, _, ⟨T1, L1, k1, n1⟩, -, X1, ⟨Lc1, hQ1, l1, y1, z1⟩, st1⟩ := X0.virtualBack hx (y := (⟨"com/example/tributary/tributary/AccessList$InheritanceType", "combine", "(Lcom/example/tributary/tributary/AccessList$Decision;Lcom/example/tributary/tributary/AccessList$Decision;)Lcom/example/tributary/tributary/AccessList$Decision;"⟩ : MethodName)) (z := (⟨"com/example/tributary/tributary/AccessList$InheritanceType", "combine", "(Lcom/example/tributary/tributary/AccessList$Decision;Lcom/example/tributary/tributary/AccessList$Decision;)Lcom/example/tributary/tributary/AccessList$Decision;"⟩ : MethodName)) hown (mvT hZ (hw _ (List.mem_of_getElem? (i := 22) rfl))) (mvT hZ (hw _ (List.mem_of_getElem? (i := 23) rfl))) (notFace_of_selects (args := #[]) (mvT hZ (hw _ (List.mem_of_getElem? (i := 25) rfl)))) (mvT hZ (hw _ (List.mem_of_getElem? (i := 25) rfl))) (mvT hZ (hw _ (List.mem_of_getElem? (i := 24) rfl))) (by decide) (backOf (W := 0) (rm1_w_AND_BOTH_PERMIT_w_PERMIT_w_PERMIT l Z a0 hw [] w_AND_BOTH_PERMIT w_PERMIT h0 n0 Z0 F_ordinal_w_AND_BOTH_PERMIT E_w_AND_BOTH_PERMIT S_PERMIT) hZ (hw _ (List.mem_of_getElem? (i := 26) rfl)) (hw _ (List.mem_of_getElem? (i := 4) rfl)) (by decide) (by decide)) q1a q1c (g := (mkF m 220 #[.val (.int p1), .val (.int p2), .val (.int p3), .val (.int 2), .val (.int 0), .val (.int 0), .val (.ref b1), .val (.ref b8), .val (.ref b15), .unset] [(.ref w_PERMIT), (.ref w_PERMIT), (.ref w_AND_BOTH_PERMIT)])) rfl (by rw [hml]; rfl) (Steps.refl _) (argsL := [(.ref w_PERMIT), (.ref w_PERMIT)]) (rest := []) (lenOf pd__Lcom_example_tributary_tributary_AccessList_Decision_Lcom_example_tributary_tributary_AccessList_Decision__Lcom_example_tributary_tributary_AccessList_Decision_ rfl) rfl (by show 2 * 0 + _ ≤ _; exact Nat.le_of_eq rfl) (hb hby at_220) (fun _ _ => ⟨rfl, e0, (by decide : 3 + 0 ≤ _), (by decide : 33 + 0 ≤ _)⟩)
  dsimp only [Pt.U, Pt.locs, Pt.cells, Pt.slots] at X1 l1 y1 z1 st1 hQ1
  subst l1 y1 z1
  obtain ⟨rfl, N1q, e1⟩ := hQ1
  have N1 := Fr.app N0 N1q
  refine ⟨T1, _, #[.val (.int p1), .val (.int p2), .val (.int p3), .val (.int 2), .val (.int 0), .val (.int 0), .val (.ref b1), .val (.ref b8), .val (.ref b15), .val (.ref w_PERMIT)], X1, N1, fun target kt => ?_⟩
  show Steps p.tables e below (T0.setTop (mkF m 206 #[.val (.int p1), .val (.int p2), .val (.int p3), .val (.int 2), .val (.int 0), .val (.int 0), .val (.ref b1), .val (.ref b8), .val (.ref b15), .unset] [])) _
  refine XS.aload X0.here hx rfl (hb hby at_206) rfl rfl ?_
  show Steps p.tables e below (T0.setTop (mkF m 208 #[.val (.int p1), .val (.int p2), .val (.int p3), .val (.int 2), .val (.int 0), .val (.int 0), .val (.ref b1), .val (.ref b8), .val (.ref b15), .unset] [(.ref b1)])) _
  refine XS.iloadN X0.here hx rfl (hb hby at_208) rfl ?_
  show Steps p.tables e below (T0.setTop (mkF m 209 #[.val (.int p1), .val (.int p2), .val (.int p3), .val (.int 2), .val (.int 0), .val (.int 0), .val (.ref b1), .val (.ref b8), .val (.ref b15), .unset] [(.int 2), (.ref b1)])) _
  refine own_ldR X0 hx hZ e0 V_b1 (j := (2 : Int32)) ⟨by decide, by decide⟩ rfl (g := (mkF m 209 #[.val (.int p1), .val (.int p2), .val (.int p3), .val (.int 2), .val (.int 0), .val (.int 0), .val (.ref b1), .val (.ref b8), .val (.ref b15), .unset] [(.int 2), (.ref b1)])) rfl rfl (hb hby at_209) _ ?_
  show Steps p.tables e below (T0.setTop (mkF m 210 #[.val (.int p1), .val (.int p2), .val (.int p3), .val (.int 2), .val (.int 0), .val (.int 0), .val (.ref b1), .val (.ref b8), .val (.ref b15), .unset] [(.ref w_AND_BOTH_PERMIT)])) _
  refine XS.aload X0.here hx rfl (hb hby at_210) rfl rfl ?_
  show Steps p.tables e below (T0.setTop (mkF m 212 #[.val (.int p1), .val (.int p2), .val (.int p3), .val (.int 2), .val (.int 0), .val (.int 0), .val (.ref b1), .val (.ref b8), .val (.ref b15), .unset] [(.ref b8), (.ref w_AND_BOTH_PERMIT)])) _
  refine XS.iload X0.here hx rfl (hb hby at_212) rfl ?_
  show Steps p.tables e below (T0.setTop (mkF m 214 #[.val (.int p1), .val (.int p2), .val (.int p3), .val (.int 2), .val (.int 0), .val (.int 0), .val (.ref b1), .val (.ref b8), .val (.ref b15), .unset] [(.int 0), (.ref b8), (.ref w_AND_BOTH_PERMIT)])) _
  refine own_ldR X0 hx hZ e0 V_b8 (j := (0 : Int32)) ⟨by decide, by decide⟩ rfl (g := (mkF m 214 #[.val (.int p1), .val (.int p2), .val (.int p3), .val (.int 2), .val (.int 0), .val (.int 0), .val (.ref b1), .val (.ref b8), .val (.ref b15), .unset] [(.int 0), (.ref b8), (.ref w_AND_BOTH_PERMIT)])) rfl rfl (hb hby at_214) _ ?_
  show Steps p.tables e below (T0.setTop (mkF m 215 #[.val (.int p1), .val (.int p2), .val (.int p3), .val (.int 2), .val (.int 0), .val (.int 0), .val (.ref b1), .val (.ref b8), .val (.ref b15), .unset] [(.ref w_PERMIT), (.ref w_AND_BOTH_PERMIT)])) _
  refine XS.aload X0.here hx rfl (hb hby at_215) rfl rfl ?_
  show Steps p.tables e below (T0.setTop (mkF m 217 #[.val (.int p1), .val (.int p2), .val (.int p3), .val (.int 2), .val (.int 0), .val (.int 0), .val (.ref b1), .val (.ref b8), .val (.ref b15), .unset] [(.ref b8), (.ref w_PERMIT), (.ref w_AND_BOTH_PERMIT)])) _
  refine XS.iload X0.here hx rfl (hb hby at_217) rfl ?_
  show Steps p.tables e below (T0.setTop (mkF m 219 #[.val (.int p1), .val (.int p2), .val (.int p3), .val (.int 2), .val (.int 0), .val (.int 0), .val (.ref b1), .val (.ref b8), .val (.ref b15), .unset] [(.int 0), (.ref b8), (.ref w_PERMIT), (.ref w_AND_BOTH_PERMIT)])) _
  refine own_ldR X0 hx hZ e0 V_b8 (j := (0 : Int32)) ⟨by decide, by decide⟩ rfl (g := (mkF m 219 #[.val (.int p1), .val (.int p2), .val (.int p3), .val (.int 2), .val (.int 0), .val (.int 0), .val (.ref b1), .val (.ref b8), .val (.ref b15), .unset] [(.int 0), (.ref b8), (.ref w_PERMIT), (.ref w_AND_BOTH_PERMIT)])) rfl rfl (hb hby at_219) _ ?_
  show Steps p.tables e below (T0.setTop (mkF m 220 #[.val (.int p1), .val (.int p2), .val (.int p3), .val (.int 2), .val (.int 0), .val (.int 0), .val (.ref b1), .val (.ref b8), .val (.ref b15), .unset] [(.ref w_PERMIT), (.ref w_PERMIT), (.ref w_AND_BOTH_PERMIT)])) _
  refine st1.trans ?_
  show Steps p.tables e below (T1.setTop (mkF m 223 #[.val (.int p1), .val (.int p2), .val (.int p3), .val (.int 2), .val (.int 0), .val (.int 0), .val (.ref b1), .val (.ref b8), .val (.ref b15), .unset] [(.ref w_PERMIT)])) _
  refine XS.astore X1.here hx rfl (hb hby at_223) rfl rfl (l' := #[.val (.int p1), .val (.int p2), .val (.int p3), .val (.int 2), .val (.int 0), .val (.int 0), .val (.ref b1), .val (.ref b8), .val (.ref b15), .val (.ref w_PERMIT)]) rfl ?_
  show Steps p.tables e below (T1.setTop (mkF m 225 #[.val (.int p1), .val (.int p2), .val (.int p3), .val (.int 2), .val (.int 0), .val (.int 0), .val (.ref b1), .val (.ref b8), .val (.ref b15), .val (.ref w_PERMIT)] [])) _
  refine XS.aload X1.here hx rfl (hb hby at_225) rfl rfl ?_
  show Steps p.tables e below (T1.setTop (mkF m 227 #[.val (.int p1), .val (.int p2), .val (.int p3), .val (.int 2), .val (.int 0), .val (.int 0), .val (.ref b1), .val (.ref b8), .val (.ref b15), .val (.ref w_PERMIT)] [(.ref w_PERMIT)])) _
  refine XS.aload X1.here hx rfl (hb hby at_227) rfl rfl ?_
  show Steps p.tables e below (T1.setTop (mkF m 229 #[.val (.int p1), .val (.int p2), .val (.int p3), .val (.int 2), .val (.int 0), .val (.int 0), .val (.ref b1), .val (.ref b8), .val (.ref b15), .val (.ref w_PERMIT)] [(.ref b8), (.ref w_PERMIT)])) _
  refine XS.aload X1.here hx rfl (hb hby at_229) rfl rfl ?_
  show Steps p.tables e below (T1.setTop (mkF m 231 #[.val (.int p1), .val (.int p2), .val (.int p3), .val (.int 2), .val (.int 0), .val (.int 0), .val (.ref b1), .val (.ref b8), .val (.ref b15), .val (.ref w_PERMIT)] [(.ref b15), (.ref b8), (.ref w_PERMIT)])) _
  refine XS.iloadN X1.here hx rfl (hb hby at_231) rfl ?_
  show Steps p.tables e below (T1.setTop (mkF m 232 #[.val (.int p1), .val (.int p2), .val (.int p3), .val (.int 2), .val (.int 0), .val (.int 0), .val (.ref b1), .val (.ref b8), .val (.ref b15), .val (.ref w_PERMIT)] [(.int 2), (.ref b15), (.ref b8), (.ref w_PERMIT)])) _
  refine XS.bipush X1.here hx rfl (hb hby at_232) ?_
  show Steps p.tables e below (T1.setTop (mkF m 234 #[.val (.int p1), .val (.int p2), .val (.int p3), .val (.int 2), .val (.int 0), .val (.int 0), .val (.ref b1), .val (.ref b8), .val (.ref b15), .val (.ref w_PERMIT)] [(.int 9), (.int 2), (.ref b15), (.ref b8), (.ref w_PERMIT)])) _
  refine XS.imul X1.here hx rfl (hb hby at_234) rfl ?_
  show Steps p.tables e below (T1.setTop (mkF m 235 #[.val (.int p1), .val (.int p2), .val (.int p3), .val (.int 2), .val (.int 0), .val (.int 0), .val (.ref b1), .val (.ref b8), .val (.ref b15), .val (.ref w_PERMIT)] [(.int ((2 : Int32) * (9 : Int32))), (.ref b15), (.ref b8), (.ref w_PERMIT)])) _
  rw [(by decide : ((2 : Int32) * (9 : Int32)) = (18 : Int32))]
  show Steps p.tables e below (T1.setTop (mkF m 235 #[.val (.int p1), .val (.int p2), .val (.int p3), .val (.int 2), .val (.int 0), .val (.int 0), .val (.ref b1), .val (.ref b8), .val (.ref b15), .val (.ref w_PERMIT)] [(.int 18), (.ref b15), (.ref b8), (.ref w_PERMIT)])) _
  refine XS.iload X1.here hx rfl (hb hby at_235) rfl ?_
  show Steps p.tables e below (T1.setTop (mkF m 237 #[.val (.int p1), .val (.int p2), .val (.int p3), .val (.int 2), .val (.int 0), .val (.int 0), .val (.ref b1), .val (.ref b8), .val (.ref b15), .val (.ref w_PERMIT)] [(.int 0), (.int 18), (.ref b15), (.ref b8), (.ref w_PERMIT)])) _
  refine XS.iconst X1.here hx rfl (hb hby at_237) ?_
  show Steps p.tables e below (T1.setTop (mkF m 238 #[.val (.int p1), .val (.int p2), .val (.int p3), .val (.int 2), .val (.int 0), .val (.int 0), .val (.ref b1), .val (.ref b8), .val (.ref b15), .val (.ref w_PERMIT)] [(.int 3), (.int 0), (.int 18), (.ref b15), (.ref b8), (.ref w_PERMIT)])) _
  refine XS.imul X1.here hx rfl (hb hby at_238) rfl ?_
  show Steps p.tables e below (T1.setTop (mkF m 239 #[.val (.int p1), .val (.int p2), .val (.int p3), .val (.int 2), .val (.int 0), .val (.int 0), .val (.ref b1), .val (.ref b8), .val (.ref b15), .val (.ref w_PERMIT)] [(.int ((0 : Int32) * (3 : Int32))), (.int 18), (.ref b15), (.ref b8), (.ref w_PERMIT)])) _
  rw [(by decide : ((0 : Int32) * (3 : Int32)) = (0 : Int32))]
  show Steps p.tables e below (T1.setTop (mkF m 239 #[.val (.int p1), .val (.int p2), .val (.int p3), .val (.int 2), .val (.int 0), .val (.int 0), .val (.ref b1), .val (.ref b8), .val (.ref b15), .val (.ref w_PERMIT)] [(.int 0), (.int 18), (.ref b15), (.ref b8), (.ref w_PERMIT)])) _
  refine XS.iadd X1.here hx rfl (hb hby at_239) rfl ?_
  show Steps p.tables e below (T1.setTop (mkF m 240 #[.val (.int p1), .val (.int p2), .val (.int p3), .val (.int 2), .val (.int 0), .val (.int 0), .val (.ref b1), .val (.ref b8), .val (.ref b15), .val (.ref w_PERMIT)] [(.int ((18 : Int32) + (0 : Int32))), (.ref b15), (.ref b8), (.ref w_PERMIT)])) _
  rw [(by decide : ((18 : Int32) + (0 : Int32)) = (18 : Int32))]
  show Steps p.tables e below (T1.setTop (mkF m 240 #[.val (.int p1), .val (.int p2), .val (.int p3), .val (.int 2), .val (.int 0), .val (.int 0), .val (.ref b1), .val (.ref b8), .val (.ref b15), .val (.ref w_PERMIT)] [(.int 18), (.ref b15), (.ref b8), (.ref w_PERMIT)])) _
  refine XS.iload X1.here hx rfl (hb hby at_240) rfl ?_
  show Steps p.tables e below (T1.setTop (mkF m 242 #[.val (.int p1), .val (.int p2), .val (.int p3), .val (.int 2), .val (.int 0), .val (.int 0), .val (.ref b1), .val (.ref b8), .val (.ref b15), .val (.ref w_PERMIT)] [(.int 0), (.int 18), (.ref b15), (.ref b8), (.ref w_PERMIT)])) _
  refine XS.iadd X1.here hx rfl (hb hby at_242) rfl ?_
  show Steps p.tables e below (T1.setTop (mkF m 243 #[.val (.int p1), .val (.int p2), .val (.int p3), .val (.int 2), .val (.int 0), .val (.int 0), .val (.ref b1), .val (.ref b8), .val (.ref b15), .val (.ref w_PERMIT)] [(.int ((18 : Int32) + (0 : Int32))), (.ref b15), (.ref b8), (.ref w_PERMIT)])) _
  rw [(by decide : ((18 : Int32) + (0 : Int32)) = (18 : Int32))]
  show Steps p.tables e below (T1.setTop (mkF m 243 #[.val (.int p1), .val (.int p2), .val (.int p3), .val (.int 2), .val (.int 0), .val (.int 0), .val (.ref b1), .val (.ref b8), .val (.ref b15), .val (.ref w_PERMIT)] [(.int 18), (.ref b15), (.ref b8), (.ref w_PERMIT)])) _
  refine own_ldI X1 hx hZ e1 V_b15 (j := (18 : Int32)) ⟨by decide, by decide⟩ rfl (g := (mkF m 243 #[.val (.int p1), .val (.int p2), .val (.int p3), .val (.int 2), .val (.int 0), .val (.int 0), .val (.ref b1), .val (.ref b8), .val (.ref b15), .val (.ref w_PERMIT)] [(.int 18), (.ref b15), (.ref b8), (.ref w_PERMIT)])) rfl rfl (hb hby at_243) _ ?_
  show Steps p.tables e below (T1.setTop (mkF m 244 #[.val (.int p1), .val (.int p2), .val (.int p3), .val (.int 2), .val (.int 0), .val (.int 0), .val (.ref b1), .val (.ref b8), .val (.ref b15), .val (.ref w_PERMIT)] [(.int 0), (.ref b8), (.ref w_PERMIT)])) _
  refine own_ldR X1 hx hZ e1 V_b8 (j := (0 : Int32)) ⟨by decide, by decide⟩ rfl (g := (mkF m 244 #[.val (.int p1), .val (.int p2), .val (.int p3), .val (.int 2), .val (.int 0), .val (.int 0), .val (.ref b1), .val (.ref b8), .val (.ref b15), .val (.ref w_PERMIT)] [(.int 0), (.ref b8), (.ref w_PERMIT)])) rfl rfl (hb hby at_244) _ ?_
  show Steps p.tables e below (T1.setTop (mkF m 245 #[.val (.int p1), .val (.int p2), .val (.int p3), .val (.int 2), .val (.int 0), .val (.int 0), .val (.ref b1), .val (.ref b8), .val (.ref b15), .val (.ref w_PERMIT)] [(.ref w_PERMIT), (.ref w_PERMIT)])) _
  refine Jvm.RoadKit.acmp (g := (mkF m 245 #[.val (.int p1), .val (.int p2), .val (.int p3), .val (.int 2), .val (.int 0), .val (.int 0), .val (.ref b1), .val (.ref b8), .val (.ref b15), .val (.ref w_PERMIT)] [(.ref w_PERMIT), (.ref w_PERMIT)])) X1 hx rfl rfl rfl (pc0 := 245) (pc' := 248) (same := true) rfl (hb hby at_245) rfl (decide_eq_true rfl) (by decide) (by decide) ?_
  show Steps p.tables e below (T1.setTop (mkF m 248 #[.val (.int p1), .val (.int p2), .val (.int p3), .val (.int 2), .val (.int 0), .val (.int 0), .val (.ref b1), .val (.ref b8), .val (.ref b15), .val (.ref w_PERMIT)] [])) _
  refine XS.iconst X1.here hx rfl (hb hby at_248) ?_
  show Steps p.tables e below (T1.setTop (mkF m 249 #[.val (.int p1), .val (.int p2), .val (.int p3), .val (.int 2), .val (.int 0), .val (.int 0), .val (.ref b1), .val (.ref b8), .val (.ref b15), .val (.ref w_PERMIT)] [(.int 1)])) _
  refine XS.goto X1.here hx rfl (pc0 := 249) (pc' := 253) rfl (hb hby at_249) (by decide) (by decide) ?_
  show Steps p.tables e below (T1.setTop (mkF m 253 #[.val (.int p1), .val (.int p2), .val (.int p3), .val (.int 2), .val (.int 0), .val (.int 0), .val (.ref b1), .val (.ref b8), .val (.ref b15), .val (.ref w_PERMIT)] [(.int 1)])) _
  exact kt
def Q1_w_AND_BOTH_PERMIT_w_PERMIT_w_DENY (Z : State) (w_AND_BOTH_PERMIT : Addr) (w_PERMIT : Addr) (w_DENY : Addr) (h0 : Heap) (n0 : Nat) (v : Option Value) (h : Heap) (L : List Loc) : Prop := v = some (.ref w_DENY) ∧ Fr n0 L ∧ h = h0
set_option maxRecDepth 65536 in
set_option maxHeartbeats 40000000 in
theorem rm1_w_AND_BOTH_PERMIT_w_PERMIT_w_DENY (l : Launch) (Z : State) (a0 : Array Value) (hw : ∀ d ∈ tables_1, d.before a0 Z = true) (ws : List Jvm.Cond) (w_AND_BOTH_PERMIT : Addr) (w_PERMIT : Addr) (w_DENY : Addr) (h0 : Heap) (n0 : Nat) (Z0 : n0 ≤ h0.size) (F_ordinal_w_AND_BOTH_PERMIT : Fld Z h0 w_AND_BOTH_PERMIT "java/lang/Enum" "ordinal" "I" (.int 2)) (E_w_AND_BOTH_PERMIT : Exa Z h0 w_AND_BOTH_PERMIT "com/example/tributary/tributary/AccessList$InheritanceType") (S_PERMIT : Sta Z h0 "com/example/tributary/tributary/AccessList$Decision" "PERMIT" "Lcom/example/tributary/tributary/AccessList$Decision;" (.ref w_PERMIT)) (n_w_DENY_w_PERMIT : ¬ (w_DENY = w_PERMIT)) (S_DENY : Sta Z h0 "com/example/tributary/tributary/AccessList$Decision" "DENY" "Lcom/example/tributary/tributary/AccessList$Decision;" (.ref w_DENY)) :
    MetFree l (⟨"com/example/tributary/tributary/AccessList$InheritanceType", "combine", "(Lcom/example/tributary/tributary/AccessList$Decision;Lcom/example/tributary/tributary/AccessList$Decision;)Lcom/example/tributary/tributary/AccessList$Decision;"⟩ : MethodName) (head1 (Jvm.Cond.code (⟨"com/example/tributary/tributary/AccessList$InheritanceType", "combine", "(Lcom/example/tributary/tributary/AccessList$Decision;Lcom/example/tributary/tributary/AccessList$Decision;)Lcom/example/tributary/tributary/AccessList$Decision;"⟩ : MethodName) prog_6_method_4_code 3 (some (.object "com/example/tributary/tributary/AccessList$Decision")) :: ws) ({ frames := 1, cells := 0, slots := 0, locals := 12 } : Room)) (fun a U => a = #[(.ref w_AND_BOTH_PERMIT), (.ref w_PERMIT), (.ref w_DENY)] ∧ Z.Warmed39 U.vm ∧ U.heap = h0) (fun _ _ _ _ _ => True) (fun _ U o U' => ∃ v L, o = .returned v ∧ Q1_w_AND_BOTH_PERMIT_w_PERMIT_w_DENY Z w_AND_BOTH_PERMIT w_PERMIT w_DENY h0 n0 v U'.heap L ∧ FrameEnd U o U' L ({ frames := 1, cells := 0, slots := 0, locals := 12 } : Room).cells ({ frames := 1, cells := 0, slots := 0, locals := 12 } : Room).slots) := by
  refine MetFree.of_bodySF (plainFor_of_name pn_1) hisR ?_
  intro p e s m args below meth c s₁ Bd hml0 hP hK
  obtain ⟨rfl, hZ, hh⟩ := hP
  have hx := Bd.exec
  have hby := Bd.bytes
  have hml : c.maxLocals = 3 := hml0
  have hown : s.vm.findClass "com/example/tributary/tributary/AccessList$InheritanceType" = some m.cls := findClass_of_methodNamed Bd.named
  have hnm := (name_of_methodNamed Bd.named Bd.method).1
  have X0 : Stand p l e ({ frames := 1, cells := 0, slots := 0, locals := 12 } : Room) s m #[(.ref w_AND_BOTH_PERMIT), (.ref w_PERMIT), (.ref w_DENY)] below meth c s₁ [] 0 0 := Stand.of_body Bd
  have e0 : s₁.heap = h0 := by rw [← hh, Bd.state]; rfl
  have N0 := Fr.nil n0
  have pre0 : ∀ t, Steps p.tables e below (s₁.setTop (mkF m 0 #[.val (.ref w_AND_BOTH_PERMIT), .val (.ref w_PERMIT), .val (.ref w_DENY)] [])) t → Steps p.tables e below (s₁.setTop (entryFrame m #[(.ref w_AND_BOTH_PERMIT), (.ref w_PERMIT), (.ref w_DENY)] 3)) t := fun t k => castTop (by first | (simp [entryFrame, mkF, argsToLocals, Value.category]; done) | rfl) k
  obtain ⟨cq1, kq1, q1a, q1b, q1c⟩ := isOf hZ e0 E_w_AND_BOTH_PERMIT
  obtain ⟨_, _, ⟨T1, L1, k1, n1⟩, -, X1, ⟨Lc1, hQ1, l1, y1, z1⟩, st1⟩ := X0.virtualBackUp hx (x := (⟨"com/example/tributary/tributary/AccessList$InheritanceType", "ordinal", "()I"⟩ : MethodName)) (y := (⟨"java/lang/Enum", "ordinal", "()I"⟩ : MethodName)) (owner := "java/lang/Enum") hown (mvT hZ (hw _ (List.mem_of_getElem? (i := 27) rfl))) (mvT hZ (hw _ (List.mem_of_getElem? (i := 28) rfl))) (mvT hZ (hw _ (List.mem_of_getElem? (i := 29) rfl))) (by decide) (mvT hZ (hw _ (List.mem_of_getElem? (i := 31) rfl))) (mvT hZ (hw _ (List.mem_of_getElem? (i := 30) rfl))) (backOf (W := 0) (rm2_w_AND_BOTH_PERMIT l Z a0 hw [] w_AND_BOTH_PERMIT h0 n0 Z0 F_ordinal_w_AND_BOTH_PERMIT) hZ (hw _ (List.mem_of_getElem? (i := 33) rfl)) (hw _ (List.mem_of_getElem? (i := 32) rfl)) (by decide) (by decide)) q1a q1c (g := (mkF m 1 #[.val (.ref w_AND_BOTH_PERMIT), .val (.ref w_PERMIT), .val (.ref w_DENY)] [(.ref w_AND_BOTH_PERMIT)])) rfl (by rw [hml]; rfl) (Steps.refl _) (argsL := []) (rest := []) (lenOf pd___I rfl) rfl (by show 2 * 0 + _ ≤ _; exact Nat.le_of_eq rfl) (hb hby d1_1) (fun _ _ => ⟨rfl, e0, (by decide : 0 + 0 ≤ _), (by decide : 0 + 0 ≤ _)⟩)
  dsimp only [Pt.U, Pt.locs, Pt.cells, Pt.slots] at X1 l1 y1 z1 st1 hQ1
  subst l1 y1 z1
  obtain ⟨rfl, N1q, e1⟩ := hQ1
  have N1 := Fr.app N0 N1q
  obtain ⟨T2, X2, e2, st2⟩ := getS2 X1 hx hZ hown (host := "") (Or.inl (hw _ (List.mem_of_getElem? (i := 37) rfl))) Via.refl e1 S_PERMIT (g := (mkF m 77 #[.val (.ref w_AND_BOTH_PERMIT), .val (.ref w_PERMIT), .val (.ref w_DENY)] [(.ref w_PERMIT)])) rfl (hb hby d1_77)
  obtain ⟨T3, X3, e3, st3⟩ := getS2 X2 hx hZ hown (host := "") (Or.inl (hw _ (List.mem_of_getElem? (i := 37) rfl))) Via.refl e2 S_PERMIT (g := (mkF m 84 #[.val (.ref w_AND_BOTH_PERMIT), .val (.ref w_PERMIT), .val (.ref w_DENY)] [(.ref w_DENY)])) rfl (hb hby d1_84)
  obtain ⟨T4, X4, e4, st4⟩ := getS2 X3 hx hZ hown (host := "") (Or.inl (hw _ (List.mem_of_getElem? (i := 38) rfl))) Via.refl e3 S_DENY (g := (mkF m 96 #[.val (.ref w_AND_BOTH_PERMIT), .val (.ref w_PERMIT), .val (.ref w_DENY)] [])) rfl (hb hby d1_96)
  obtain ⟨fs, hr, hrun, hended, hW, hsame⟩ := X4.leave (v := some (.ref w_DENY)) (fun h => by rw [Bd.returns] at h; cases h)
  refine ⟨_, _, pre0 _ ?_, hrun, hended, _, _, rfl, ?_, ⟨_, rfl⟩, hW, hsame.mono (by decide) (by decide)⟩
  · show Steps p.tables e below (s₁.setTop (mkF m 0 #[.val (.ref w_AND_BOTH_PERMIT), .val (.ref w_PERMIT), .val (.ref w_DENY)] [])) _
    refine XS.aloadN X0.here hx rfl (hb hby d1_0) rfl rfl ?_
    show Steps p.tables e below (s₁.setTop (mkF m 1 #[.val (.ref w_AND_BOTH_PERMIT), .val (.ref w_PERMIT), .val (.ref w_DENY)] [(.ref w_AND_BOTH_PERMIT)])) _
    refine st1.trans ?_
    show Steps p.tables e below (T1.setTop (mkF m 4 #[.val (.ref w_AND_BOTH_PERMIT), .val (.ref w_PERMIT), .val (.ref w_DENY)] [(.int 2)])) _
    refine XS.tswIn X1.here hx rfl (pc0 := 4) (pc' := 76) rfl (hb hby d1_4) rfl (by decide) (o := 72) (by decide) (by decide) (by decide) ?_
    show Steps p.tables e below (T1.setTop (mkF m 76 #[.val (.ref w_AND_BOTH_PERMIT), .val (.ref w_PERMIT), .val (.ref w_DENY)] [])) _
    refine XS.aloadN X1.here hx rfl (hb hby d1_76) rfl rfl ?_
    show Steps p.tables e below (T1.setTop (mkF m 77 #[.val (.ref w_AND_BOTH_PERMIT), .val (.ref w_PERMIT), .val (.ref w_DENY)] [(.ref w_PERMIT)])) _
    refine st2 _ ?_
    show Steps p.tables e below (T2.setTop (mkF m 80 #[.val (.ref w_AND_BOTH_PERMIT), .val (.ref w_PERMIT), .val (.ref w_DENY)] [(.ref w_PERMIT), (.ref w_PERMIT)])) _
    refine Jvm.RoadKit.acmp (g := (mkF m 80 #[.val (.ref w_AND_BOTH_PERMIT), .val (.ref w_PERMIT), .val (.ref w_DENY)] [(.ref w_PERMIT), (.ref w_PERMIT)])) X2 hx rfl rfl rfl (pc0 := 80) (pc' := 83) (same := true) rfl (hb hby d1_80) rfl (decide_eq_true rfl) (by decide) (by decide) ?_
    show Steps p.tables e below (T2.setTop (mkF m 83 #[.val (.ref w_AND_BOTH_PERMIT), .val (.ref w_PERMIT), .val (.ref w_DENY)] [])) _
    refine XS.aloadN X2.here hx rfl (hb hby d1_83) rfl rfl ?_
    show Steps p.tables e below (T2.setTop (mkF m 84 #[.val (.ref w_AND_BOTH_PERMIT), .val (.ref w_PERMIT), .val (.ref w_DENY)] [(.ref w_DENY)])) _
    refine st3 _ ?_
    show Steps p.tables e below (T3.setTop (mkF m 87 #[.val (.ref w_AND_BOTH_PERMIT), .val (.ref w_PERMIT), .val (.ref w_DENY)] [(.ref w_PERMIT), (.ref w_DENY)])) _
    refine Jvm.RoadKit.acmp (g := (mkF m 87 #[.val (.ref w_AND_BOTH_PERMIT), .val (.ref w_PERMIT), .val (.ref w_DENY)] [(.ref w_PERMIT), (.ref w_DENY)])) X3 hx rfl rfl rfl (pc0 := 87) (pc' := 96) (same := false) rfl (hb hby d1_87) rfl (decide_eq_false fun q => n_w_DENY_w_PERMIT (Value.ref.inj q)) (by decide) (by decide) ?_
    show Steps p.tables e below (T3.setTop (mkF m 96 #[.val (.ref w_AND_BOTH_PERMIT), .val (.ref w_PERMIT), .val (.ref w_DENY)] [])) _
    refine st4 _ ?_
    show Steps p.tables e below (T4.setTop (mkF m 99 #[.val (.ref w_AND_BOTH_PERMIT), .val (.ref w_PERMIT), .val (.ref w_DENY)] [(.ref w_DENY)])) _
    refine XS.goto X4.here hx rfl (pc0 := 99) (pc' := 112) rfl (hb hby d1_99) (by decide) (by decide) ?_
    show Steps p.tables e below (T4.setTop (mkF m 112 #[.val (.ref w_AND_BOTH_PERMIT), .val (.ref w_PERMIT), .val (.ref w_DENY)] [(.ref w_DENY)])) _
    jvm_step X4.here [X4.here.top, hx, (hb hby d1_112), X4.method', Bd.returns, Value.isRef, FieldType.isReference]
    first | (intro acts; rw [hr _ acts rfl rfl rfl]) | rw [hr _ _ rfl rfl rfl]
    exact Steps.refl _
  · show Q1_w_AND_BOTH_PERMIT_w_PERMIT_w_DENY Z w_AND_BOTH_PERMIT w_PERMIT w_DENY h0 n0 _ T4.heap _
    rw [e4]
    exact ⟨rfl, N1, rfl⟩
set_option maxRecDepth 65536 in
set_option maxHeartbeats 40000000 in
theorem pc0_k201 {p : Program} {l : Launch} {e : Env} {s : State} {m : MethodId} {args : Array Value} {below : List Frame} {meth : Method} {c : Code} {T0 : State} {locs : List Loc} {Z : State} {a0 : Array Value} {h0 : Heap} {n0 : Nat} (p1 : Int32) (p2 : Int32) (p3 : Int32) (b1 : Addr) (b8 : Addr) (b15 : Addr) (k1 : ClassId) (w_CHILD_OVERRIDES : Addr) (w_PARENT_OVERRIDES : Addr) (w_AND_BOTH_PERMIT : Addr) (k8 : ClassId) (w_PERMIT : Addr) (w_DENY : Addr) (w_INDETERMINATE : Addr) (k15 : ClassId)
    (X0 : Stand p l e room_1 s m args below meth c T0 locs 3 33) (hx : p.tables.exec = Jvm.exec) (hZ : Z.Warmed39 s.vm) (hw : ∀ d ∈ tables_1, d.before a0 Z = true) (hby : c.code = code) (hml : c.maxLocals = 10) (hown : s.vm.findClass "com/example/tributary/tributary/InheritanceTypeCombinePinLaw" = some m.cls) (e0 : T0.heap = h0) (Z0 : n0 ≤ h0.size) (N0 : Fr n0 locs) (V_b1 : Arv Z h0 b1 k1 (.object "com/example/tributary/tributary/AccessList$InheritanceType") (3 : Int32) [(.ref w_CHILD_OVERRIDES), (.ref w_PARENT_OVERRIDES), (.ref w_AND_BOTH_PERMIT)] .null) (V_b8 : Arv Z h0 b8 k8 (.object "com/example/tributary/tributary/AccessList$Decision") (3 : Int32) [(.ref w_PERMIT), (.ref w_DENY), (.ref w_INDETERMINATE)] .null) (F_ordinal_w_AND_BOTH_PERMIT : Fld Z h0 w_AND_BOTH_PERMIT "java/lang/Enum" "ordinal" "I" (.int 2)) (E_w_AND_BOTH_PERMIT : Exa Z h0 w_AND_BOTH_PERMIT "com/example/tributary/tributary/AccessList$InheritanceType") (S_PERMIT : Sta Z h0 "com/example/tributary/tributary/AccessList$Decision" "PERMIT" "Lcom/example/tributary/tributary/AccessList$Decision;" (.ref w_PERMIT)) (n_w_DENY_w_PERMIT : ¬ (w_DENY = w_PERMIT)) (S_DENY : Sta Z h0 "com/example/tributary/tributary/AccessList$Decision" "DENY" "Lcom/example/tributary/tributary/AccessList$Decision;" (.ref w_DENY)) (V_b15 : Arv Z h0 b15 k15 .int (27 : Int32) [(.int 0), (.int 1), (.int 0), (.int 0), (.int 1), (.int 1), (.int 0), (.int 1), (.int 2), (.int 0), (.int 0), (.int 0), (.int 1), (.int 1), (.int 1), (.int 0), (.int 1), (.int 2), (.int 0), (.int 1), (.int 1), (.int 1), (.int 1), (.int 1), (.int 1), (.int 1), (.int 1)] (.int (0 : Int32))) :
    ∃ (T' : State) (L' : List Loc) (Ls : Array Slot), Stand p l e room_1 s m args below meth c T' L' 3 33 ∧ Fr n0 L' ∧ ∀ target, Steps p.tables e below (T'.setTop (mkF m 253 Ls [(.int 1)])) target → Steps p.tables e below (T0.setTop (mkF m 206 #[.val (.int p1), .val (.int p2), .val (.int p3), .val (.int 2), .val (.int 0), .val (.int 1), .val (.ref b1), .val (.ref b8), .val (.ref b15), .unset] [])) target := by
  obtain ⟨cq1, kq1, q1a, q1b, q1c⟩ := isOf hZ e0 E_w_AND_BOTH_PERMIT
  obtain ⟨_, _, ⟨T1, L1, k1, n1⟩, -, X1, ⟨Lc1, hQ1, l1, y1, z1⟩, st1⟩ := X0.virtualBack hx (y := (⟨"com/example/tributary/tributary/AccessList$InheritanceType", "combine", "(Lcom/example/tributary/tributary/AccessList$Decision;Lcom/example/tributary/tributary/AccessList$Decision;)Lcom/example/tributary/tributary/AccessList$Decision;"⟩ : MethodName)) (z := (⟨"com/example/tributary/tributary/AccessList$InheritanceType", "combine", "(Lcom/example/tributary/tributary/AccessList$Decision;Lcom/example/tributary/tributary/AccessList$Decision;)Lcom/example/tributary/tributary/AccessList$Decision;"⟩ : MethodName)) hown (mvT hZ (hw _ (List.mem_of_getElem? (i := 22) rfl))) (mvT hZ (hw _ (List.mem_of_getElem? (i := 23) rfl))) (notFace_of_selects (args := #[]) (mvT hZ (hw _ (List.mem_of_getElem? (i := 25) rfl)))) (mvT hZ (hw _ (List.mem_of_getElem? (i := 25) rfl))) (mvT hZ (hw _ (List.mem_of_getElem? (i := 24) rfl))) (by decide) (backOf (W := 0) (rm1_w_AND_BOTH_PERMIT_w_PERMIT_w_DENY l Z a0 hw [] w_AND_BOTH_PERMIT w_PERMIT w_DENY h0 n0 Z0 F_ordinal_w_AND_BOTH_PERMIT E_w_AND_BOTH_PERMIT S_PERMIT n_w_DENY_w_PERMIT S_DENY) hZ (hw _ (List.mem_of_getElem? (i := 26) rfl)) (hw _ (List.mem_of_getElem? (i := 4) rfl)) (by decide) (by decide)) q1a q1c (g := (mkF m 220 #[.val (.int p1), .val (.int p2), .val (.int p3), .val (.int 2), .val (.int 0), .val (.int 1), .val (.ref b1), .val (.ref b8), .val (.ref b15), .unset] [(.ref w_DENY), (.ref w_PERMIT), (.ref w_AND_BOTH_PERMIT)])) rfl (by rw [hml]; rfl) (Steps.refl _) (argsL := [(.ref w_PERMIT), (.ref w_DENY)]) (rest := []) (lenOf pd__Lcom_example_tributary_tributary_AccessList_Decision_Lcom_example_tributary_tributary_AccessList_Decision__Lcom_example_tributary_tributary_AccessList_Decision_ rfl) rfl (by show 2 * 0 + _ ≤ _; exact Nat.le_of_eq rfl) (hb hby at_220) (fun _ _ => ⟨rfl, e0, (by decide : 3 + 0 ≤ _), (by decide : 33 + 0 ≤ _)⟩)
  dsimp only [Pt.U, Pt.locs, Pt.cells, Pt.slots] at X1 l1 y1 z1 st1 hQ1
  subst l1 y1 z1
  obtain ⟨rfl, N1q, e1⟩ := hQ1
  have N1 := Fr.app N0 N1q
  refine ⟨T1, _, #[.val (.int p1), .val (.int p2), .val (.int p3), .val (.int 2), .val (.int 0), .val (.int 1), .val (.ref b1), .val (.ref b8), .val (.ref b15), .val (.ref w_DENY)], X1, N1, fun target kt => ?_⟩
  show Steps p.tables e below (T0.setTop (mkF m 206 #[.val (.int p1), .val (.int p2), .val (.int p3), .val (.int 2), .val (.int 0), .val (.int 1), .val (.ref b1), .val (.ref b8), .val (.ref b15), .unset] [])) _
  refine XS.aload X0.here hx rfl (hb hby at_206) rfl rfl ?_
  show Steps p.tables e below (T0.setTop (mkF m 208 #[.val (.int p1), .val (.int p2), .val (.int p3), .val (.int 2), .val (.int 0), .val (.int 1), .val (.ref b1), .val (.ref b8), .val (.ref b15), .unset] [(.ref b1)])) _
  refine XS.iloadN X0.here hx rfl (hb hby at_208) rfl ?_
  show Steps p.tables e below (T0.setTop (mkF m 209 #[.val (.int p1), .val (.int p2), .val (.int p3), .val (.int 2), .val (.int 0), .val (.int 1), .val (.ref b1), .val (.ref b8), .val (.ref b15), .unset] [(.int 2), (.ref b1)])) _
  refine own_ldR X0 hx hZ e0 V_b1 (j := (2 : Int32)) ⟨by decide, by decide⟩ rfl (g := (mkF m 209 #[.val (.int p1), .val (.int p2), .val (.int p3), .val (.int 2), .val (.int 0), .val (.int 1), .val (.ref b1), .val (.ref b8), .val (.ref b15), .unset] [(.int 2), (.ref b1)])) rfl rfl (hb hby at_209) _ ?_
  show Steps p.tables e below (T0.setTop (mkF m 210 #[.val (.int p1), .val (.int p2), .val (.int p3), .val (.int 2), .val (.int 0), .val (.int 1), .val (.ref b1), .val (.ref b8), .val (.ref b15), .unset] [(.ref w_AND_BOTH_PERMIT)])) _
  refine XS.aload X0.here hx rfl (hb hby at_210) rfl rfl ?_
  show Steps p.tables e below (T0.setTop (mkF m 212 #[.val (.int p1), .val (.int p2), .val (.int p3), .val (.int 2), .val (.int 0), .val (.int 1), .val (.ref b1), .val (.ref b8), .val (.ref b15), .unset] [(.ref b8), (.ref w_AND_BOTH_PERMIT)])) _
  refine XS.iload X0.here hx rfl (hb hby at_212) rfl ?_
  show Steps p.tables e below (T0.setTop (mkF m 214 #[.val (.int p1), .val (.int p2), .val (.int p3), .val (.int 2), .val (.int 0), .val (.int 1), .val (.ref b1), .val (.ref b8), .val (.ref b15), .unset] [(.int 0), (.ref b8), (.ref w_AND_BOTH_PERMIT)])) _
  refine own_ldR X0 hx hZ e0 V_b8 (j := (0 : Int32)) ⟨by decide, by decide⟩ rfl (g := (mkF m 214 #[.val (.int p1), .val (.int p2), .val (.int p3), .val (.int 2), .val (.int 0), .val (.int 1), .val (.ref b1), .val (.ref b8), .val (.ref b15), .unset] [(.int 0), (.ref b8), (.ref w_AND_BOTH_PERMIT)])) rfl rfl (hb hby at_214) _ ?_
  show Steps p.tables e below (T0.setTop (mkF m 215 #[.val (.int p1), .val (.int p2), .val (.int p3), .val (.int 2), .val (.int 0), .val (.int 1), .val (.ref b1), .val (.ref b8), .val (.ref b15), .unset] [(.ref w_PERMIT), (.ref w_AND_BOTH_PERMIT)])) _
  refine XS.aload X0.here hx rfl (hb hby at_215) rfl rfl ?_
  show Steps p.tables e below (T0.setTop (mkF m 217 #[.val (.int p1), .val (.int p2), .val (.int p3), .val (.int 2), .val (.int 0), .val (.int 1), .val (.ref b1), .val (.ref b8), .val (.ref b15), .unset] [(.ref b8), (.ref w_PERMIT), (.ref w_AND_BOTH_PERMIT)])) _
  refine XS.iload X0.here hx rfl (hb hby at_217) rfl ?_
  show Steps p.tables e below (T0.setTop (mkF m 219 #[.val (.int p1), .val (.int p2), .val (.int p3), .val (.int 2), .val (.int 0), .val (.int 1), .val (.ref b1), .val (.ref b8), .val (.ref b15), .unset] [(.int 1), (.ref b8), (.ref w_PERMIT), (.ref w_AND_BOTH_PERMIT)])) _
  refine own_ldR X0 hx hZ e0 V_b8 (j := (1 : Int32)) ⟨by decide, by decide⟩ rfl (g := (mkF m 219 #[.val (.int p1), .val (.int p2), .val (.int p3), .val (.int 2), .val (.int 0), .val (.int 1), .val (.ref b1), .val (.ref b8), .val (.ref b15), .unset] [(.int 1), (.ref b8), (.ref w_PERMIT), (.ref w_AND_BOTH_PERMIT)])) rfl rfl (hb hby at_219) _ ?_
  show Steps p.tables e below (T0.setTop (mkF m 220 #[.val (.int p1), .val (.int p2), .val (.int p3), .val (.int 2), .val (.int 0), .val (.int 1), .val (.ref b1), .val (.ref b8), .val (.ref b15), .unset] [(.ref w_DENY), (.ref w_PERMIT), (.ref w_AND_BOTH_PERMIT)])) _
  refine st1.trans ?_
  show Steps p.tables e below (T1.setTop (mkF m 223 #[.val (.int p1), .val (.int p2), .val (.int p3), .val (.int 2), .val (.int 0), .val (.int 1), .val (.ref b1), .val (.ref b8), .val (.ref b15), .unset] [(.ref w_DENY)])) _
  refine XS.astore X1.here hx rfl (hb hby at_223) rfl rfl (l' := #[.val (.int p1), .val (.int p2), .val (.int p3), .val (.int 2), .val (.int 0), .val (.int 1), .val (.ref b1), .val (.ref b8), .val (.ref b15), .val (.ref w_DENY)]) rfl ?_
  show Steps p.tables e below (T1.setTop (mkF m 225 #[.val (.int p1), .val (.int p2), .val (.int p3), .val (.int 2), .val (.int 0), .val (.int 1), .val (.ref b1), .val (.ref b8), .val (.ref b15), .val (.ref w_DENY)] [])) _
  refine XS.aload X1.here hx rfl (hb hby at_225) rfl rfl ?_
  show Steps p.tables e below (T1.setTop (mkF m 227 #[.val (.int p1), .val (.int p2), .val (.int p3), .val (.int 2), .val (.int 0), .val (.int 1), .val (.ref b1), .val (.ref b8), .val (.ref b15), .val (.ref w_DENY)] [(.ref w_DENY)])) _
  refine XS.aload X1.here hx rfl (hb hby at_227) rfl rfl ?_
  show Steps p.tables e below (T1.setTop (mkF m 229 #[.val (.int p1), .val (.int p2), .val (.int p3), .val (.int 2), .val (.int 0), .val (.int 1), .val (.ref b1), .val (.ref b8), .val (.ref b15), .val (.ref w_DENY)] [(.ref b8), (.ref w_DENY)])) _
  refine XS.aload X1.here hx rfl (hb hby at_229) rfl rfl ?_
  show Steps p.tables e below (T1.setTop (mkF m 231 #[.val (.int p1), .val (.int p2), .val (.int p3), .val (.int 2), .val (.int 0), .val (.int 1), .val (.ref b1), .val (.ref b8), .val (.ref b15), .val (.ref w_DENY)] [(.ref b15), (.ref b8), (.ref w_DENY)])) _
  refine XS.iloadN X1.here hx rfl (hb hby at_231) rfl ?_
  show Steps p.tables e below (T1.setTop (mkF m 232 #[.val (.int p1), .val (.int p2), .val (.int p3), .val (.int 2), .val (.int 0), .val (.int 1), .val (.ref b1), .val (.ref b8), .val (.ref b15), .val (.ref w_DENY)] [(.int 2), (.ref b15), (.ref b8), (.ref w_DENY)])) _
  refine XS.bipush X1.here hx rfl (hb hby at_232) ?_
  show Steps p.tables e below (T1.setTop (mkF m 234 #[.val (.int p1), .val (.int p2), .val (.int p3), .val (.int 2), .val (.int 0), .val (.int 1), .val (.ref b1), .val (.ref b8), .val (.ref b15), .val (.ref w_DENY)] [(.int 9), (.int 2), (.ref b15), (.ref b8), (.ref w_DENY)])) _
  refine XS.imul X1.here hx rfl (hb hby at_234) rfl ?_
  show Steps p.tables e below (T1.setTop (mkF m 235 #[.val (.int p1), .val (.int p2), .val (.int p3), .val (.int 2), .val (.int 0), .val (.int 1), .val (.ref b1), .val (.ref b8), .val (.ref b15), .val (.ref w_DENY)] [(.int ((2 : Int32) * (9 : Int32))), (.ref b15), (.ref b8), (.ref w_DENY)])) _
  rw [(by decide : ((2 : Int32) * (9 : Int32)) = (18 : Int32))]
  show Steps p.tables e below (T1.setTop (mkF m 235 #[.val (.int p1), .val (.int p2), .val (.int p3), .val (.int 2), .val (.int 0), .val (.int 1), .val (.ref b1), .val (.ref b8), .val (.ref b15), .val (.ref w_DENY)] [(.int 18), (.ref b15), (.ref b8), (.ref w_DENY)])) _
  refine XS.iload X1.here hx rfl (hb hby at_235) rfl ?_
  show Steps p.tables e below (T1.setTop (mkF m 237 #[.val (.int p1), .val (.int p2), .val (.int p3), .val (.int 2), .val (.int 0), .val (.int 1), .val (.ref b1), .val (.ref b8), .val (.ref b15), .val (.ref w_DENY)] [(.int 0), (.int 18), (.ref b15), (.ref b8), (.ref w_DENY)])) _
  refine XS.iconst X1.here hx rfl (hb hby at_237) ?_
  show Steps p.tables e below (T1.setTop (mkF m 238 #[.val (.int p1), .val (.int p2), .val (.int p3), .val (.int 2), .val (.int 0), .val (.int 1), .val (.ref b1), .val (.ref b8), .val (.ref b15), .val (.ref w_DENY)] [(.int 3), (.int 0), (.int 18), (.ref b15), (.ref b8), (.ref w_DENY)])) _
  refine XS.imul X1.here hx rfl (hb hby at_238) rfl ?_
  show Steps p.tables e below (T1.setTop (mkF m 239 #[.val (.int p1), .val (.int p2), .val (.int p3), .val (.int 2), .val (.int 0), .val (.int 1), .val (.ref b1), .val (.ref b8), .val (.ref b15), .val (.ref w_DENY)] [(.int ((0 : Int32) * (3 : Int32))), (.int 18), (.ref b15), (.ref b8), (.ref w_DENY)])) _
  rw [(by decide : ((0 : Int32) * (3 : Int32)) = (0 : Int32))]
  show Steps p.tables e below (T1.setTop (mkF m 239 #[.val (.int p1), .val (.int p2), .val (.int p3), .val (.int 2), .val (.int 0), .val (.int 1), .val (.ref b1), .val (.ref b8), .val (.ref b15), .val (.ref w_DENY)] [(.int 0), (.int 18), (.ref b15), (.ref b8), (.ref w_DENY)])) _
  refine XS.iadd X1.here hx rfl (hb hby at_239) rfl ?_
  show Steps p.tables e below (T1.setTop (mkF m 240 #[.val (.int p1), .val (.int p2), .val (.int p3), .val (.int 2), .val (.int 0), .val (.int 1), .val (.ref b1), .val (.ref b8), .val (.ref b15), .val (.ref w_DENY)] [(.int ((18 : Int32) + (0 : Int32))), (.ref b15), (.ref b8), (.ref w_DENY)])) _
  rw [(by decide : ((18 : Int32) + (0 : Int32)) = (18 : Int32))]
  show Steps p.tables e below (T1.setTop (mkF m 240 #[.val (.int p1), .val (.int p2), .val (.int p3), .val (.int 2), .val (.int 0), .val (.int 1), .val (.ref b1), .val (.ref b8), .val (.ref b15), .val (.ref w_DENY)] [(.int 18), (.ref b15), (.ref b8), (.ref w_DENY)])) _
  refine XS.iload X1.here hx rfl (hb hby at_240) rfl ?_
  show Steps p.tables e below (T1.setTop (mkF m 242 #[.val (.int p1), .val (.int p2), .val (.int p3), .val (.int 2), .val (.int 0), .val (.int 1), .val (.ref b1), .val (.ref b8), .val (.ref b15), .val (.ref w_DENY)] [(.int 1), (.int 18), (.ref b15), (.ref b8), (.ref w_DENY)])) _
  refine XS.iadd X1.here hx rfl (hb hby at_242) rfl ?_
  show Steps p.tables e below (T1.setTop (mkF m 243 #[.val (.int p1), .val (.int p2), .val (.int p3), .val (.int 2), .val (.int 0), .val (.int 1), .val (.ref b1), .val (.ref b8), .val (.ref b15), .val (.ref w_DENY)] [(.int ((18 : Int32) + (1 : Int32))), (.ref b15), (.ref b8), (.ref w_DENY)])) _
  rw [(by decide : ((18 : Int32) + (1 : Int32)) = (19 : Int32))]
  show Steps p.tables e below (T1.setTop (mkF m 243 #[.val (.int p1), .val (.int p2), .val (.int p3), .val (.int 2), .val (.int 0), .val (.int 1), .val (.ref b1), .val (.ref b8), .val (.ref b15), .val (.ref w_DENY)] [(.int 19), (.ref b15), (.ref b8), (.ref w_DENY)])) _
  refine own_ldI X1 hx hZ e1 V_b15 (j := (19 : Int32)) ⟨by decide, by decide⟩ rfl (g := (mkF m 243 #[.val (.int p1), .val (.int p2), .val (.int p3), .val (.int 2), .val (.int 0), .val (.int 1), .val (.ref b1), .val (.ref b8), .val (.ref b15), .val (.ref w_DENY)] [(.int 19), (.ref b15), (.ref b8), (.ref w_DENY)])) rfl rfl (hb hby at_243) _ ?_
  show Steps p.tables e below (T1.setTop (mkF m 244 #[.val (.int p1), .val (.int p2), .val (.int p3), .val (.int 2), .val (.int 0), .val (.int 1), .val (.ref b1), .val (.ref b8), .val (.ref b15), .val (.ref w_DENY)] [(.int 1), (.ref b8), (.ref w_DENY)])) _
  refine own_ldR X1 hx hZ e1 V_b8 (j := (1 : Int32)) ⟨by decide, by decide⟩ rfl (g := (mkF m 244 #[.val (.int p1), .val (.int p2), .val (.int p3), .val (.int 2), .val (.int 0), .val (.int 1), .val (.ref b1), .val (.ref b8), .val (.ref b15), .val (.ref w_DENY)] [(.int 1), (.ref b8), (.ref w_DENY)])) rfl rfl (hb hby at_244) _ ?_
  show Steps p.tables e below (T1.setTop (mkF m 245 #[.val (.int p1), .val (.int p2), .val (.int p3), .val (.int 2), .val (.int 0), .val (.int 1), .val (.ref b1), .val (.ref b8), .val (.ref b15), .val (.ref w_DENY)] [(.ref w_DENY), (.ref w_DENY)])) _
  refine Jvm.RoadKit.acmp (g := (mkF m 245 #[.val (.int p1), .val (.int p2), .val (.int p3), .val (.int 2), .val (.int 0), .val (.int 1), .val (.ref b1), .val (.ref b8), .val (.ref b15), .val (.ref w_DENY)] [(.ref w_DENY), (.ref w_DENY)])) X1 hx rfl rfl rfl (pc0 := 245) (pc' := 248) (same := true) rfl (hb hby at_245) rfl (decide_eq_true rfl) (by decide) (by decide) ?_
  show Steps p.tables e below (T1.setTop (mkF m 248 #[.val (.int p1), .val (.int p2), .val (.int p3), .val (.int 2), .val (.int 0), .val (.int 1), .val (.ref b1), .val (.ref b8), .val (.ref b15), .val (.ref w_DENY)] [])) _
  refine XS.iconst X1.here hx rfl (hb hby at_248) ?_
  show Steps p.tables e below (T1.setTop (mkF m 249 #[.val (.int p1), .val (.int p2), .val (.int p3), .val (.int 2), .val (.int 0), .val (.int 1), .val (.ref b1), .val (.ref b8), .val (.ref b15), .val (.ref w_DENY)] [(.int 1)])) _
  refine XS.goto X1.here hx rfl (pc0 := 249) (pc' := 253) rfl (hb hby at_249) (by decide) (by decide) ?_
  show Steps p.tables e below (T1.setTop (mkF m 253 #[.val (.int p1), .val (.int p2), .val (.int p3), .val (.int 2), .val (.int 0), .val (.int 1), .val (.ref b1), .val (.ref b8), .val (.ref b15), .val (.ref w_DENY)] [(.int 1)])) _
  exact kt
def Q1_w_AND_BOTH_PERMIT_w_PERMIT_w_INDETERMINATE (Z : State) (w_AND_BOTH_PERMIT : Addr) (w_PERMIT : Addr) (w_INDETERMINATE : Addr) (w_DENY : Addr) (h0 : Heap) (n0 : Nat) (v : Option Value) (h : Heap) (L : List Loc) : Prop := v = some (.ref w_DENY) ∧ Fr n0 L ∧ h = h0
set_option maxRecDepth 65536 in
set_option maxHeartbeats 40000000 in
theorem rm1_w_AND_BOTH_PERMIT_w_PERMIT_w_INDETERMINATE (l : Launch) (Z : State) (a0 : Array Value) (hw : ∀ d ∈ tables_1, d.before a0 Z = true) (ws : List Jvm.Cond) (w_AND_BOTH_PERMIT : Addr) (w_PERMIT : Addr) (w_INDETERMINATE : Addr) (w_DENY : Addr) (h0 : Heap) (n0 : Nat) (Z0 : n0 ≤ h0.size) (F_ordinal_w_AND_BOTH_PERMIT : Fld Z h0 w_AND_BOTH_PERMIT "java/lang/Enum" "ordinal" "I" (.int 2)) (E_w_AND_BOTH_PERMIT : Exa Z h0 w_AND_BOTH_PERMIT "com/example/tributary/tributary/AccessList$InheritanceType") (S_PERMIT : Sta Z h0 "com/example/tributary/tributary/AccessList$Decision" "PERMIT" "Lcom/example/tributary/tributary/AccessList$Decision;" (.ref w_PERMIT)) (n_w_INDETERMINATE_w_PERMIT : ¬ (w_INDETERMINATE = w_PERMIT)) (S_DENY : Sta Z h0 "com/example/tributary/tributary/AccessList$Decision" "DENY" "Lcom/example/tributary/tributary/AccessList$Decision;" (.ref w_DENY)) :
    MetFree l (⟨"com/example/tributary/tributary/AccessList$InheritanceType", "combine", "(Lcom/example/tributary/tributary/AccessList$Decision;Lcom/example/tributary/tributary/AccessList$Decision;)Lcom/example/tributary/tributary/AccessList$Decision;"⟩ : MethodName) (head1 (Jvm.Cond.code (⟨"com/example/tributary/tributary/AccessList$InheritanceType", "combine", "(Lcom/example/tributary/tributary/AccessList$Decision;Lcom/example/tributary/tributary/AccessList$Decision;)Lcom/example/tributary/tributary/AccessList$Decision;"⟩ : MethodName) prog_6_method_4_code 3 (some (.object "com/example/tributary/tributary/AccessList$Decision")) :: ws) ({ frames := 1, cells := 0, slots := 0, locals := 12 } : Room)) (fun a U => a = #[(.ref w_AND_BOTH_PERMIT), (.ref w_PERMIT), (.ref w_INDETERMINATE)] ∧ Z.Warmed39 U.vm ∧ U.heap = h0) (fun _ _ _ _ _ => True) (fun _ U o U' => ∃ v L, o = .returned v ∧ Q1_w_AND_BOTH_PERMIT_w_PERMIT_w_INDETERMINATE Z w_AND_BOTH_PERMIT w_PERMIT w_INDETERMINATE w_DENY h0 n0 v U'.heap L ∧ FrameEnd U o U' L ({ frames := 1, cells := 0, slots := 0, locals := 12 } : Room).cells ({ frames := 1, cells := 0, slots := 0, locals := 12 } : Room).slots) := by
  refine MetFree.of_bodySF (plainFor_of_name pn_1) hisR ?_
  intro p e s m args below meth c s₁ Bd hml0 hP hK
  obtain ⟨rfl, hZ, hh⟩ := hP
  have hx := Bd.exec
  have hby := Bd.bytes
  have hml : c.maxLocals = 3 := hml0
  have hown : s.vm.findClass "com/example/tributary/tributary/AccessList$InheritanceType" = some m.cls := findClass_of_methodNamed Bd.named
  have hnm := (name_of_methodNamed Bd.named Bd.method).1
  have X0 : Stand p l e ({ frames := 1, cells := 0, slots := 0, locals := 12 } : Room) s m #[(.ref w_AND_BOTH_PERMIT), (.ref w_PERMIT), (.ref w_INDETERMINATE)] below meth c s₁ [] 0 0 := Stand.of_body Bd
  have e0 : s₁.heap = h0 := by rw [← hh, Bd.state]; rfl
  have N0 := Fr.nil n0
  have pre0 : ∀ t, Steps p.tables e below (s₁.setTop (mkF m 0 #[.val (.ref w_AND_BOTH_PERMIT), .val (.ref w_PERMIT), .val (.ref w_INDETERMINATE)] [])) t → Steps p.tables e below (s₁.setTop (entryFrame m #[(.ref w_AND_BOTH_PERMIT), (.ref w_PERMIT), (.ref w_INDETERMINATE)] 3)) t := fun t k => castTop (by first | (simp [entryFrame, mkF, argsToLocals, Value.category]; done) | rfl) k
  obtain ⟨cq1, kq1, q1a, q1b, q1c⟩ := isOf hZ e0 E_w_AND_BOTH_PERMIT
  obtain ⟨_, _, ⟨T1, L1, k1, n1⟩, -, X1, ⟨Lc1, hQ1, l1, y1, z1⟩, st1⟩ := X0.virtualBackUp hx (x := (⟨"com/example/tributary/tributary/AccessList$InheritanceType", "ordinal", "()I"⟩ : MethodName)) (y := (⟨"java/lang/Enum", "ordinal", "()I"⟩ : MethodName)) (owner := "java/lang/Enum") hown (mvT hZ (hw _ (List.mem_of_getElem? (i := 27) rfl))) (mvT hZ (hw _ (List.mem_of_getElem? (i := 28) rfl))) (mvT hZ (hw _ (List.mem_of_getElem? (i := 29) rfl))) (by decide) (mvT hZ (hw _ (List.mem_of_getElem? (i := 31) rfl))) (mvT hZ (hw _ (List.mem_of_getElem? (i := 30) rfl))) (backOf (W := 0) (rm2_w_AND_BOTH_PERMIT l Z a0 hw [] w_AND_BOTH_PERMIT h0 n0 Z0 F_ordinal_w_AND_BOTH_PERMIT) hZ (hw _ (List.mem_of_getElem? (i := 33) rfl)) (hw _ (List.mem_of_getElem? (i := 32) rfl)) (by decide) (by decide)) q1a q1c (g := (mkF m 1 #[.val (.ref w_AND_BOTH_PERMIT), .val (.ref w_PERMIT), .val (.ref w_INDETERMINATE)] [(.ref w_AND_BOTH_PERMIT)])) rfl (by rw [hml]; rfl) (Steps.refl _) (argsL := []) (rest := []) (lenOf pd___I rfl) rfl (by show 2 * 0 + _ ≤ _; exact Nat.le_of_eq rfl) (hb hby d1_1) (fun _ _ => ⟨rfl, e0, (by decide : 0 + 0 ≤ _), (by decide : 0 + 0 ≤ _)⟩)
  dsimp only [Pt.U, Pt.locs, Pt.cells, Pt.slots] at X1 l1 y1 z1 st1 hQ1
  subst l1 y1 z1
  obtain ⟨rfl, N1q, e1⟩ := hQ1
  have N1 := Fr.app N0 N1q
  obtain ⟨T2, X2, e2, st2⟩ := getS2 X1 hx hZ hown (host := "") (Or.inl (hw _ (List.mem_of_getElem? (i := 37) rfl))) Via.refl e1 S_PERMIT (g := (mkF m 77 #[.val (.ref w_AND_BOTH_PERMIT), .val (.ref w_PERMIT), .val (.ref w_INDETERMINATE)] [(.ref w_PERMIT)])) rfl (hb hby d1_77)
  obtain ⟨T3, X3, e3, st3⟩ := getS2 X2 hx hZ hown (host := "") (Or.inl (hw _ (List.mem_of_getElem? (i := 37) rfl))) Via.refl e2 S_PERMIT (g := (mkF m 84 #[.val (.ref w_AND_BOTH_PERMIT), .val (.ref w_PERMIT), .val (.ref w_INDETERMINATE)] [(.ref w_INDETERMINATE)])) rfl (hb hby d1_84)
  obtain ⟨T4, X4, e4, st4⟩ := getS2 X3 hx hZ hown (host := "") (Or.inl (hw _ (List.mem_of_getElem? (i := 38) rfl))) Via.refl e3 S_DENY (g := (mkF m 96 #[.val (.ref w_AND_BOTH_PERMIT), .val (.ref w_PERMIT), .val (.ref w_INDETERMINATE)] [])) rfl (hb hby d1_96)
  obtain ⟨fs, hr, hrun, hended, hW, hsame⟩ := X4.leave (v := some (.ref w_DENY)) (fun h => by rw [Bd.returns] at h; cases h)
  refine ⟨_, _, pre0 _ ?_, hrun, hended, _, _, rfl, ?_, ⟨_, rfl⟩, hW, hsame.mono (by decide) (by decide)⟩
  · show Steps p.tables e below (s₁.setTop (mkF m 0 #[.val (.ref w_AND_BOTH_PERMIT), .val (.ref w_PERMIT), .val (.ref w_INDETERMINATE)] [])) _
    refine XS.aloadN X0.here hx rfl (hb hby d1_0) rfl rfl ?_
    show Steps p.tables e below (s₁.setTop (mkF m 1 #[.val (.ref w_AND_BOTH_PERMIT), .val (.ref w_PERMIT), .val (.ref w_INDETERMINATE)] [(.ref w_AND_BOTH_PERMIT)])) _
    refine st1.trans ?_
    show Steps p.tables e below (T1.setTop (mkF m 4 #[.val (.ref w_AND_BOTH_PERMIT), .val (.ref w_PERMIT), .val (.ref w_INDETERMINATE)] [(.int 2)])) _
    refine XS.tswIn X1.here hx rfl (pc0 := 4) (pc' := 76) rfl (hb hby d1_4) rfl (by decide) (o := 72) (by decide) (by decide) (by decide) ?_
    show Steps p.tables e below (T1.setTop (mkF m 76 #[.val (.ref w_AND_BOTH_PERMIT), .val (.ref w_PERMIT), .val (.ref w_INDETERMINATE)] [])) _
    refine XS.aloadN X1.here hx rfl (hb hby d1_76) rfl rfl ?_
    show Steps p.tables e below (T1.setTop (mkF m 77 #[.val (.ref w_AND_BOTH_PERMIT), .val (.ref w_PERMIT), .val (.ref w_INDETERMINATE)] [(.ref w_PERMIT)])) _
    refine st2 _ ?_
    show Steps p.tables e below (T2.setTop (mkF m 80 #[.val (.ref w_AND_BOTH_PERMIT), .val (.ref w_PERMIT), .val (.ref w_INDETERMINATE)] [(.ref w_PERMIT), (.ref w_PERMIT)])) _
    refine Jvm.RoadKit.acmp (g := (mkF m 80 #[.val (.ref w_AND_BOTH_PERMIT), .val (.ref w_PERMIT), .val (.ref w_INDETERMINATE)] [(.ref w_PERMIT), (.ref w_PERMIT)])) X2 hx rfl rfl rfl (pc0 := 80) (pc' := 83) (same := true) rfl (hb hby d1_80) rfl (decide_eq_true rfl) (by decide) (by decide) ?_
    show Steps p.tables e below (T2.setTop (mkF m 83 #[.val (.ref w_AND_BOTH_PERMIT), .val (.ref w_PERMIT), .val (.ref w_INDETERMINATE)] [])) _
    refine XS.aloadN X2.here hx rfl (hb hby d1_83) rfl rfl ?_
    show Steps p.tables e below (T2.setTop (mkF m 84 #[.val (.ref w_AND_BOTH_PERMIT), .val (.ref w_PERMIT), .val (.ref w_INDETERMINATE)] [(.ref w_INDETERMINATE)])) _
    refine st3 _ ?_
    show Steps p.tables e below (T3.setTop (mkF m 87 #[.val (.ref w_AND_BOTH_PERMIT), .val (.ref w_PERMIT), .val (.ref w_INDETERMINATE)] [(.ref w_PERMIT), (.ref w_INDETERMINATE)])) _
    refine Jvm.RoadKit.acmp (g := (mkF m 87 #[.val (.ref w_AND_BOTH_PERMIT), .val (.ref w_PERMIT), .val (.ref w_INDETERMINATE)] [(.ref w_PERMIT), (.ref w_INDETERMINATE)])) X3 hx rfl rfl rfl (pc0 := 87) (pc' := 96) (same := false) rfl (hb hby d1_87) rfl (decide_eq_false fun q => n_w_INDETERMINATE_w_PERMIT (Value.ref.inj q)) (by decide) (by decide) ?_
    show Steps p.tables e below (T3.setTop (mkF m 96 #[.val (.ref w_AND_BOTH_PERMIT), .val (.ref w_PERMIT), .val (.ref w_INDETERMINATE)] [])) _
    refine st4 _ ?_
    show Steps p.tables e below (T4.setTop (mkF m 99 #[.val (.ref w_AND_BOTH_PERMIT), .val (.ref w_PERMIT), .val (.ref w_INDETERMINATE)] [(.ref w_DENY)])) _
    refine XS.goto X4.here hx rfl (pc0 := 99) (pc' := 112) rfl (hb hby d1_99) (by decide) (by decide) ?_
    show Steps p.tables e below (T4.setTop (mkF m 112 #[.val (.ref w_AND_BOTH_PERMIT), .val (.ref w_PERMIT), .val (.ref w_INDETERMINATE)] [(.ref w_DENY)])) _
    jvm_step X4.here [X4.here.top, hx, (hb hby d1_112), X4.method', Bd.returns, Value.isRef, FieldType.isReference]
    first | (intro acts; rw [hr _ acts rfl rfl rfl]) | rw [hr _ _ rfl rfl rfl]
    exact Steps.refl _
  · show Q1_w_AND_BOTH_PERMIT_w_PERMIT_w_INDETERMINATE Z w_AND_BOTH_PERMIT w_PERMIT w_INDETERMINATE w_DENY h0 n0 _ T4.heap _
    rw [e4]
    exact ⟨rfl, N1, rfl⟩
set_option maxRecDepth 65536 in
set_option maxHeartbeats 40000000 in
theorem pc0_k202 {p : Program} {l : Launch} {e : Env} {s : State} {m : MethodId} {args : Array Value} {below : List Frame} {meth : Method} {c : Code} {T0 : State} {locs : List Loc} {Z : State} {a0 : Array Value} {h0 : Heap} {n0 : Nat} (p1 : Int32) (p2 : Int32) (p3 : Int32) (b1 : Addr) (b8 : Addr) (b15 : Addr) (k1 : ClassId) (w_CHILD_OVERRIDES : Addr) (w_PARENT_OVERRIDES : Addr) (w_AND_BOTH_PERMIT : Addr) (k8 : ClassId) (w_PERMIT : Addr) (w_DENY : Addr) (w_INDETERMINATE : Addr) (k15 : ClassId)
    (X0 : Stand p l e room_1 s m args below meth c T0 locs 3 33) (hx : p.tables.exec = Jvm.exec) (hZ : Z.Warmed39 s.vm) (hw : ∀ d ∈ tables_1, d.before a0 Z = true) (hby : c.code = code) (hml : c.maxLocals = 10) (hown : s.vm.findClass "com/example/tributary/tributary/InheritanceTypeCombinePinLaw" = some m.cls) (e0 : T0.heap = h0) (Z0 : n0 ≤ h0.size) (N0 : Fr n0 locs) (V_b1 : Arv Z h0 b1 k1 (.object "com/example/tributary/tributary/AccessList$InheritanceType") (3 : Int32) [(.ref w_CHILD_OVERRIDES), (.ref w_PARENT_OVERRIDES), (.ref w_AND_BOTH_PERMIT)] .null) (V_b8 : Arv Z h0 b8 k8 (.object "com/example/tributary/tributary/AccessList$Decision") (3 : Int32) [(.ref w_PERMIT), (.ref w_DENY), (.ref w_INDETERMINATE)] .null) (F_ordinal_w_AND_BOTH_PERMIT : Fld Z h0 w_AND_BOTH_PERMIT "java/lang/Enum" "ordinal" "I" (.int 2)) (E_w_AND_BOTH_PERMIT : Exa Z h0 w_AND_BOTH_PERMIT "com/example/tributary/tributary/AccessList$InheritanceType") (S_PERMIT : Sta Z h0 "com/example/tributary/tributary/AccessList$Decision" "PERMIT" "Lcom/example/tributary/tributary/AccessList$Decision;" (.ref w_PERMIT)) (n_w_INDETERMINATE_w_PERMIT : ¬ (w_INDETERMINATE = w_PERMIT)) (S_DENY : Sta Z h0 "com/example/tributary/tributary/AccessList$Decision" "DENY" "Lcom/example/tributary/tributary/AccessList$Decision;" (.ref w_DENY)) (V_b15 : Arv Z h0 b15 k15 .int (27 : Int32) [(.int 0), (.int 1), (.int 0), (.int 0), (.int 1), (.int 1), (.int 0), (.int 1), (.int 2), (.int 0), (.int 0), (.int 0), (.int 1), (.int 1), (.int 1), (.int 0), (.int 1), (.int 2), (.int 0), (.int 1), (.int 1), (.int 1), (.int 1), (.int 1), (.int 1), (.int 1), (.int 1)] (.int (0 : Int32))) :
    ∃ (T' : State) (L' : List Loc) (Ls : Array Slot), Stand p l e room_1 s m args below meth c T' L' 3 33 ∧ Fr n0 L' ∧ ∀ target, Steps p.tables e below (T'.setTop (mkF m 253 Ls [(.int 1)])) target → Steps p.tables e below (T0.setTop (mkF m 206 #[.val (.int p1), .val (.int p2), .val (.int p3), .val (.int 2), .val (.int 0), .val (.int 2), .val (.ref b1), .val (.ref b8), .val (.ref b15), .unset] [])) target := by
  obtain ⟨cq1, kq1, q1a, q1b, q1c⟩ := isOf hZ e0 E_w_AND_BOTH_PERMIT
  obtain ⟨_, _, ⟨T1, L1, k1, n1⟩, -, X1, ⟨Lc1, hQ1, l1, y1, z1⟩, st1⟩ := X0.virtualBack hx (y := (⟨"com/example/tributary/tributary/AccessList$InheritanceType", "combine", "(Lcom/example/tributary/tributary/AccessList$Decision;Lcom/example/tributary/tributary/AccessList$Decision;)Lcom/example/tributary/tributary/AccessList$Decision;"⟩ : MethodName)) (z := (⟨"com/example/tributary/tributary/AccessList$InheritanceType", "combine", "(Lcom/example/tributary/tributary/AccessList$Decision;Lcom/example/tributary/tributary/AccessList$Decision;)Lcom/example/tributary/tributary/AccessList$Decision;"⟩ : MethodName)) hown (mvT hZ (hw _ (List.mem_of_getElem? (i := 22) rfl))) (mvT hZ (hw _ (List.mem_of_getElem? (i := 23) rfl))) (notFace_of_selects (args := #[]) (mvT hZ (hw _ (List.mem_of_getElem? (i := 25) rfl)))) (mvT hZ (hw _ (List.mem_of_getElem? (i := 25) rfl))) (mvT hZ (hw _ (List.mem_of_getElem? (i := 24) rfl))) (by decide) (backOf (W := 0) (rm1_w_AND_BOTH_PERMIT_w_PERMIT_w_INDETERMINATE l Z a0 hw [] w_AND_BOTH_PERMIT w_PERMIT w_INDETERMINATE w_DENY h0 n0 Z0 F_ordinal_w_AND_BOTH_PERMIT E_w_AND_BOTH_PERMIT S_PERMIT n_w_INDETERMINATE_w_PERMIT S_DENY) hZ (hw _ (List.mem_of_getElem? (i := 26) rfl)) (hw _ (List.mem_of_getElem? (i := 4) rfl)) (by decide) (by decide)) q1a q1c (g := (mkF m 220 #[.val (.int p1), .val (.int p2), .val (.int p3), .val (.int 2), .val (.int 0), .val (.int 2), .val (.ref b1), .val (.ref b8), .val (.ref b15), .unset] [(.ref w_INDETERMINATE), (.ref w_PERMIT), (.ref w_AND_BOTH_PERMIT)])) rfl (by rw [hml]; rfl) (Steps.refl _) (argsL := [(.ref w_PERMIT), (.ref w_INDETERMINATE)]) (rest := []) (lenOf pd__Lcom_example_tributary_tributary_AccessList_Decision_Lcom_example_tributary_tributary_AccessList_Decision__Lcom_example_tributary_tributary_AccessList_Decision_ rfl) rfl (by show 2 * 0 + _ ≤ _; exact Nat.le_of_eq rfl) (hb hby at_220) (fun _ _ => ⟨rfl, e0, (by decide : 3 + 0 ≤ _), (by decide : 33 + 0 ≤ _)⟩)
  dsimp only [Pt.U, Pt.locs, Pt.cells, Pt.slots] at X1 l1 y1 z1 st1 hQ1
  subst l1 y1 z1
  obtain ⟨rfl, N1q, e1⟩ := hQ1
  have N1 := Fr.app N0 N1q
  refine ⟨T1, _, #[.val (.int p1), .val (.int p2), .val (.int p3), .val (.int 2), .val (.int 0), .val (.int 2), .val (.ref b1), .val (.ref b8), .val (.ref b15), .val (.ref w_DENY)], X1, N1, fun target kt => ?_⟩
  show Steps p.tables e below (T0.setTop (mkF m 206 #[.val (.int p1), .val (.int p2), .val (.int p3), .val (.int 2), .val (.int 0), .val (.int 2), .val (.ref b1), .val (.ref b8), .val (.ref b15), .unset] [])) _
  refine XS.aload X0.here hx rfl (hb hby at_206) rfl rfl ?_
  show Steps p.tables e below (T0.setTop (mkF m 208 #[.val (.int p1), .val (.int p2), .val (.int p3), .val (.int 2), .val (.int 0), .val (.int 2), .val (.ref b1), .val (.ref b8), .val (.ref b15), .unset] [(.ref b1)])) _
  refine XS.iloadN X0.here hx rfl (hb hby at_208) rfl ?_
  show Steps p.tables e below (T0.setTop (mkF m 209 #[.val (.int p1), .val (.int p2), .val (.int p3), .val (.int 2), .val (.int 0), .val (.int 2), .val (.ref b1), .val (.ref b8), .val (.ref b15), .unset] [(.int 2), (.ref b1)])) _
  refine own_ldR X0 hx hZ e0 V_b1 (j := (2 : Int32)) ⟨by decide, by decide⟩ rfl (g := (mkF m 209 #[.val (.int p1), .val (.int p2), .val (.int p3), .val (.int 2), .val (.int 0), .val (.int 2), .val (.ref b1), .val (.ref b8), .val (.ref b15), .unset] [(.int 2), (.ref b1)])) rfl rfl (hb hby at_209) _ ?_
  show Steps p.tables e below (T0.setTop (mkF m 210 #[.val (.int p1), .val (.int p2), .val (.int p3), .val (.int 2), .val (.int 0), .val (.int 2), .val (.ref b1), .val (.ref b8), .val (.ref b15), .unset] [(.ref w_AND_BOTH_PERMIT)])) _
  refine XS.aload X0.here hx rfl (hb hby at_210) rfl rfl ?_
  show Steps p.tables e below (T0.setTop (mkF m 212 #[.val (.int p1), .val (.int p2), .val (.int p3), .val (.int 2), .val (.int 0), .val (.int 2), .val (.ref b1), .val (.ref b8), .val (.ref b15), .unset] [(.ref b8), (.ref w_AND_BOTH_PERMIT)])) _
  refine XS.iload X0.here hx rfl (hb hby at_212) rfl ?_
  show Steps p.tables e below (T0.setTop (mkF m 214 #[.val (.int p1), .val (.int p2), .val (.int p3), .val (.int 2), .val (.int 0), .val (.int 2), .val (.ref b1), .val (.ref b8), .val (.ref b15), .unset] [(.int 0), (.ref b8), (.ref w_AND_BOTH_PERMIT)])) _
  refine own_ldR X0 hx hZ e0 V_b8 (j := (0 : Int32)) ⟨by decide, by decide⟩ rfl (g := (mkF m 214 #[.val (.int p1), .val (.int p2), .val (.int p3), .val (.int 2), .val (.int 0), .val (.int 2), .val (.ref b1), .val (.ref b8), .val (.ref b15), .unset] [(.int 0), (.ref b8), (.ref w_AND_BOTH_PERMIT)])) rfl rfl (hb hby at_214) _ ?_
  show Steps p.tables e below (T0.setTop (mkF m 215 #[.val (.int p1), .val (.int p2), .val (.int p3), .val (.int 2), .val (.int 0), .val (.int 2), .val (.ref b1), .val (.ref b8), .val (.ref b15), .unset] [(.ref w_PERMIT), (.ref w_AND_BOTH_PERMIT)])) _
  refine XS.aload X0.here hx rfl (hb hby at_215) rfl rfl ?_
  show Steps p.tables e below (T0.setTop (mkF m 217 #[.val (.int p1), .val (.int p2), .val (.int p3), .val (.int 2), .val (.int 0), .val (.int 2), .val (.ref b1), .val (.ref b8), .val (.ref b15), .unset] [(.ref b8), (.ref w_PERMIT), (.ref w_AND_BOTH_PERMIT)])) _
  refine XS.iload X0.here hx rfl (hb hby at_217) rfl ?_
  show Steps p.tables e below (T0.setTop (mkF m 219 #[.val (.int p1), .val (.int p2), .val (.int p3), .val (.int 2), .val (.int 0), .val (.int 2), .val (.ref b1), .val (.ref b8), .val (.ref b15), .unset] [(.int 2), (.ref b8), (.ref w_PERMIT), (.ref w_AND_BOTH_PERMIT)])) _
  refine own_ldR X0 hx hZ e0 V_b8 (j := (2 : Int32)) ⟨by decide, by decide⟩ rfl (g := (mkF m 219 #[.val (.int p1), .val (.int p2), .val (.int p3), .val (.int 2), .val (.int 0), .val (.int 2), .val (.ref b1), .val (.ref b8), .val (.ref b15), .unset] [(.int 2), (.ref b8), (.ref w_PERMIT), (.ref w_AND_BOTH_PERMIT)])) rfl rfl (hb hby at_219) _ ?_
  show Steps p.tables e below (T0.setTop (mkF m 220 #[.val (.int p1), .val (.int p2), .val (.int p3), .val (.int 2), .val (.int 0), .val (.int 2), .val (.ref b1), .val (.ref b8), .val (.ref b15), .unset] [(.ref w_INDETERMINATE), (.ref w_PERMIT), (.ref w_AND_BOTH_PERMIT)])) _
  refine st1.trans ?_
  show Steps p.tables e below (T1.setTop (mkF m 223 #[.val (.int p1), .val (.int p2), .val (.int p3), .val (.int 2), .val (.int 0), .val (.int 2), .val (.ref b1), .val (.ref b8), .val (.ref b15), .unset] [(.ref w_DENY)])) _
  refine XS.astore X1.here hx rfl (hb hby at_223) rfl rfl (l' := #[.val (.int p1), .val (.int p2), .val (.int p3), .val (.int 2), .val (.int 0), .val (.int 2), .val (.ref b1), .val (.ref b8), .val (.ref b15), .val (.ref w_DENY)]) rfl ?_
  show Steps p.tables e below (T1.setTop (mkF m 225 #[.val (.int p1), .val (.int p2), .val (.int p3), .val (.int 2), .val (.int 0), .val (.int 2), .val (.ref b1), .val (.ref b8), .val (.ref b15), .val (.ref w_DENY)] [])) _
  refine XS.aload X1.here hx rfl (hb hby at_225) rfl rfl ?_
  show Steps p.tables e below (T1.setTop (mkF m 227 #[.val (.int p1), .val (.int p2), .val (.int p3), .val (.int 2), .val (.int 0), .val (.int 2), .val (.ref b1), .val (.ref b8), .val (.ref b15), .val (.ref w_DENY)] [(.ref w_DENY)])) _
  refine XS.aload X1.here hx rfl (hb hby at_227) rfl rfl ?_
  show Steps p.tables e below (T1.setTop (mkF m 229 #[.val (.int p1), .val (.int p2), .val (.int p3), .val (.int 2), .val (.int 0), .val (.int 2), .val (.ref b1), .val (.ref b8), .val (.ref b15), .val (.ref w_DENY)] [(.ref b8), (.ref w_DENY)])) _
  refine XS.aload X1.here hx rfl (hb hby at_229) rfl rfl ?_
  show Steps p.tables e below (T1.setTop (mkF m 231 #[.val (.int p1), .val (.int p2), .val (.int p3), .val (.int 2), .val (.int 0), .val (.int 2), .val (.ref b1), .val (.ref b8), .val (.ref b15), .val (.ref w_DENY)] [(.ref b15), (.ref b8), (.ref w_DENY)])) _
  refine XS.iloadN X1.here hx rfl (hb hby at_231) rfl ?_
  show Steps p.tables e below (T1.setTop (mkF m 232 #[.val (.int p1), .val (.int p2), .val (.int p3), .val (.int 2), .val (.int 0), .val (.int 2), .val (.ref b1), .val (.ref b8), .val (.ref b15), .val (.ref w_DENY)] [(.int 2), (.ref b15), (.ref b8), (.ref w_DENY)])) _
  refine XS.bipush X1.here hx rfl (hb hby at_232) ?_
  show Steps p.tables e below (T1.setTop (mkF m 234 #[.val (.int p1), .val (.int p2), .val (.int p3), .val (.int 2), .val (.int 0), .val (.int 2), .val (.ref b1), .val (.ref b8), .val (.ref b15), .val (.ref w_DENY)] [(.int 9), (.int 2), (.ref b15), (.ref b8), (.ref w_DENY)])) _
  refine XS.imul X1.here hx rfl (hb hby at_234) rfl ?_
  show Steps p.tables e below (T1.setTop (mkF m 235 #[.val (.int p1), .val (.int p2), .val (.int p3), .val (.int 2), .val (.int 0), .val (.int 2), .val (.ref b1), .val (.ref b8), .val (.ref b15), .val (.ref w_DENY)] [(.int ((2 : Int32) * (9 : Int32))), (.ref b15), (.ref b8), (.ref w_DENY)])) _
  rw [(by decide : ((2 : Int32) * (9 : Int32)) = (18 : Int32))]
  show Steps p.tables e below (T1.setTop (mkF m 235 #[.val (.int p1), .val (.int p2), .val (.int p3), .val (.int 2), .val (.int 0), .val (.int 2), .val (.ref b1), .val (.ref b8), .val (.ref b15), .val (.ref w_DENY)] [(.int 18), (.ref b15), (.ref b8), (.ref w_DENY)])) _
  refine XS.iload X1.here hx rfl (hb hby at_235) rfl ?_
  show Steps p.tables e below (T1.setTop (mkF m 237 #[.val (.int p1), .val (.int p2), .val (.int p3), .val (.int 2), .val (.int 0), .val (.int 2), .val (.ref b1), .val (.ref b8), .val (.ref b15), .val (.ref w_DENY)] [(.int 0), (.int 18), (.ref b15), (.ref b8), (.ref w_DENY)])) _
  refine XS.iconst X1.here hx rfl (hb hby at_237) ?_
  show Steps p.tables e below (T1.setTop (mkF m 238 #[.val (.int p1), .val (.int p2), .val (.int p3), .val (.int 2), .val (.int 0), .val (.int 2), .val (.ref b1), .val (.ref b8), .val (.ref b15), .val (.ref w_DENY)] [(.int 3), (.int 0), (.int 18), (.ref b15), (.ref b8), (.ref w_DENY)])) _
  refine XS.imul X1.here hx rfl (hb hby at_238) rfl ?_
  show Steps p.tables e below (T1.setTop (mkF m 239 #[.val (.int p1), .val (.int p2), .val (.int p3), .val (.int 2), .val (.int 0), .val (.int 2), .val (.ref b1), .val (.ref b8), .val (.ref b15), .val (.ref w_DENY)] [(.int ((0 : Int32) * (3 : Int32))), (.int 18), (.ref b15), (.ref b8), (.ref w_DENY)])) _
  rw [(by decide : ((0 : Int32) * (3 : Int32)) = (0 : Int32))]
  show Steps p.tables e below (T1.setTop (mkF m 239 #[.val (.int p1), .val (.int p2), .val (.int p3), .val (.int 2), .val (.int 0), .val (.int 2), .val (.ref b1), .val (.ref b8), .val (.ref b15), .val (.ref w_DENY)] [(.int 0), (.int 18), (.ref b15), (.ref b8), (.ref w_DENY)])) _
  refine XS.iadd X1.here hx rfl (hb hby at_239) rfl ?_
  show Steps p.tables e below (T1.setTop (mkF m 240 #[.val (.int p1), .val (.int p2), .val (.int p3), .val (.int 2), .val (.int 0), .val (.int 2), .val (.ref b1), .val (.ref b8), .val (.ref b15), .val (.ref w_DENY)] [(.int ((18 : Int32) + (0 : Int32))), (.ref b15), (.ref b8), (.ref w_DENY)])) _
  rw [(by decide : ((18 : Int32) + (0 : Int32)) = (18 : Int32))]
  show Steps p.tables e below (T1.setTop (mkF m 240 #[.val (.int p1), .val (.int p2), .val (.int p3), .val (.int 2), .val (.int 0), .val (.int 2), .val (.ref b1), .val (.ref b8), .val (.ref b15), .val (.ref w_DENY)] [(.int 18), (.ref b15), (.ref b8), (.ref w_DENY)])) _
  refine XS.iload X1.here hx rfl (hb hby at_240) rfl ?_
  show Steps p.tables e below (T1.setTop (mkF m 242 #[.val (.int p1), .val (.int p2), .val (.int p3), .val (.int 2), .val (.int 0), .val (.int 2), .val (.ref b1), .val (.ref b8), .val (.ref b15), .val (.ref w_DENY)] [(.int 2), (.int 18), (.ref b15), (.ref b8), (.ref w_DENY)])) _
  refine XS.iadd X1.here hx rfl (hb hby at_242) rfl ?_
  show Steps p.tables e below (T1.setTop (mkF m 243 #[.val (.int p1), .val (.int p2), .val (.int p3), .val (.int 2), .val (.int 0), .val (.int 2), .val (.ref b1), .val (.ref b8), .val (.ref b15), .val (.ref w_DENY)] [(.int ((18 : Int32) + (2 : Int32))), (.ref b15), (.ref b8), (.ref w_DENY)])) _
  rw [(by decide : ((18 : Int32) + (2 : Int32)) = (20 : Int32))]
  show Steps p.tables e below (T1.setTop (mkF m 243 #[.val (.int p1), .val (.int p2), .val (.int p3), .val (.int 2), .val (.int 0), .val (.int 2), .val (.ref b1), .val (.ref b8), .val (.ref b15), .val (.ref w_DENY)] [(.int 20), (.ref b15), (.ref b8), (.ref w_DENY)])) _
  refine own_ldI X1 hx hZ e1 V_b15 (j := (20 : Int32)) ⟨by decide, by decide⟩ rfl (g := (mkF m 243 #[.val (.int p1), .val (.int p2), .val (.int p3), .val (.int 2), .val (.int 0), .val (.int 2), .val (.ref b1), .val (.ref b8), .val (.ref b15), .val (.ref w_DENY)] [(.int 20), (.ref b15), (.ref b8), (.ref w_DENY)])) rfl rfl (hb hby at_243) _ ?_
  show Steps p.tables e below (T1.setTop (mkF m 244 #[.val (.int p1), .val (.int p2), .val (.int p3), .val (.int 2), .val (.int 0), .val (.int 2), .val (.ref b1), .val (.ref b8), .val (.ref b15), .val (.ref w_DENY)] [(.int 1), (.ref b8), (.ref w_DENY)])) _
  refine own_ldR X1 hx hZ e1 V_b8 (j := (1 : Int32)) ⟨by decide, by decide⟩ rfl (g := (mkF m 244 #[.val (.int p1), .val (.int p2), .val (.int p3), .val (.int 2), .val (.int 0), .val (.int 2), .val (.ref b1), .val (.ref b8), .val (.ref b15), .val (.ref w_DENY)] [(.int 1), (.ref b8), (.ref w_DENY)])) rfl rfl (hb hby at_244) _ ?_
  show Steps p.tables e below (T1.setTop (mkF m 245 #[.val (.int p1), .val (.int p2), .val (.int p3), .val (.int 2), .val (.int 0), .val (.int 2), .val (.ref b1), .val (.ref b8), .val (.ref b15), .val (.ref w_DENY)] [(.ref w_DENY), (.ref w_DENY)])) _
  refine Jvm.RoadKit.acmp (g := (mkF m 245 #[.val (.int p1), .val (.int p2), .val (.int p3), .val (.int 2), .val (.int 0), .val (.int 2), .val (.ref b1), .val (.ref b8), .val (.ref b15), .val (.ref w_DENY)] [(.ref w_DENY), (.ref w_DENY)])) X1 hx rfl rfl rfl (pc0 := 245) (pc' := 248) (same := true) rfl (hb hby at_245) rfl (decide_eq_true rfl) (by decide) (by decide) ?_
  show Steps p.tables e below (T1.setTop (mkF m 248 #[.val (.int p1), .val (.int p2), .val (.int p3), .val (.int 2), .val (.int 0), .val (.int 2), .val (.ref b1), .val (.ref b8), .val (.ref b15), .val (.ref w_DENY)] [])) _
  refine XS.iconst X1.here hx rfl (hb hby at_248) ?_
  show Steps p.tables e below (T1.setTop (mkF m 249 #[.val (.int p1), .val (.int p2), .val (.int p3), .val (.int 2), .val (.int 0), .val (.int 2), .val (.ref b1), .val (.ref b8), .val (.ref b15), .val (.ref w_DENY)] [(.int 1)])) _
  refine XS.goto X1.here hx rfl (pc0 := 249) (pc' := 253) rfl (hb hby at_249) (by decide) (by decide) ?_
  show Steps p.tables e below (T1.setTop (mkF m 253 #[.val (.int p1), .val (.int p2), .val (.int p3), .val (.int 2), .val (.int 0), .val (.int 2), .val (.ref b1), .val (.ref b8), .val (.ref b15), .val (.ref w_DENY)] [(.int 1)])) _
  exact kt
def Q1_w_AND_BOTH_PERMIT_w_DENY_w_PERMIT (Z : State) (w_AND_BOTH_PERMIT : Addr) (w_DENY : Addr) (w_PERMIT : Addr) (h0 : Heap) (n0 : Nat) (v : Option Value) (h : Heap) (L : List Loc) : Prop := v = some (.ref w_DENY) ∧ Fr n0 L ∧ h = h0
set_option maxRecDepth 65536 in
set_option maxHeartbeats 40000000 in
theorem rm1_w_AND_BOTH_PERMIT_w_DENY_w_PERMIT (l : Launch) (Z : State) (a0 : Array Value) (hw : ∀ d ∈ tables_1, d.before a0 Z = true) (ws : List Jvm.Cond) (w_AND_BOTH_PERMIT : Addr) (w_DENY : Addr) (w_PERMIT : Addr) (h0 : Heap) (n0 : Nat) (Z0 : n0 ≤ h0.size) (F_ordinal_w_AND_BOTH_PERMIT : Fld Z h0 w_AND_BOTH_PERMIT "java/lang/Enum" "ordinal" "I" (.int 2)) (E_w_AND_BOTH_PERMIT : Exa Z h0 w_AND_BOTH_PERMIT "com/example/tributary/tributary/AccessList$InheritanceType") (S_PERMIT : Sta Z h0 "com/example/tributary/tributary/AccessList$Decision" "PERMIT" "Lcom/example/tributary/tributary/AccessList$Decision;" (.ref w_PERMIT)) (n_w_DENY_w_PERMIT : ¬ (w_DENY = w_PERMIT)) (S_DENY : Sta Z h0 "com/example/tributary/tributary/AccessList$Decision" "DENY" "Lcom/example/tributary/tributary/AccessList$Decision;" (.ref w_DENY)) :
    MetFree l (⟨"com/example/tributary/tributary/AccessList$InheritanceType", "combine", "(Lcom/example/tributary/tributary/AccessList$Decision;Lcom/example/tributary/tributary/AccessList$Decision;)Lcom/example/tributary/tributary/AccessList$Decision;"⟩ : MethodName) (head1 (Jvm.Cond.code (⟨"com/example/tributary/tributary/AccessList$InheritanceType", "combine", "(Lcom/example/tributary/tributary/AccessList$Decision;Lcom/example/tributary/tributary/AccessList$Decision;)Lcom/example/tributary/tributary/AccessList$Decision;"⟩ : MethodName) prog_6_method_4_code 3 (some (.object "com/example/tributary/tributary/AccessList$Decision")) :: ws) ({ frames := 1, cells := 0, slots := 0, locals := 12 } : Room)) (fun a U => a = #[(.ref w_AND_BOTH_PERMIT), (.ref w_DENY), (.ref w_PERMIT)] ∧ Z.Warmed39 U.vm ∧ U.heap = h0) (fun _ _ _ _ _ => True) (fun _ U o U' => ∃ v L, o = .returned v ∧ Q1_w_AND_BOTH_PERMIT_w_DENY_w_PERMIT Z w_AND_BOTH_PERMIT w_DENY w_PERMIT h0 n0 v U'.heap L ∧ FrameEnd U o U' L ({ frames := 1, cells := 0, slots := 0, locals := 12 } : Room).cells ({ frames := 1, cells := 0, slots := 0, locals := 12 } : Room).slots) := by
  refine MetFree.of_bodySF (plainFor_of_name pn_1) hisR ?_
  intro p e s m args below meth c s₁ Bd hml0 hP hK
  obtain ⟨rfl, hZ, hh⟩ := hP
  have hx := Bd.exec
  have hby := Bd.bytes
  have hml : c.maxLocals = 3 := hml0
  have hown : s.vm.findClass "com/example/tributary/tributary/AccessList$InheritanceType" = some m.cls := findClass_of_methodNamed Bd.named
  have hnm := (name_of_methodNamed Bd.named Bd.method).1
  have X0 : Stand p l e ({ frames := 1, cells := 0, slots := 0, locals := 12 } : Room) s m #[(.ref w_AND_BOTH_PERMIT), (.ref w_DENY), (.ref w_PERMIT)] below meth c s₁ [] 0 0 := Stand.of_body Bd
  have e0 : s₁.heap = h0 := by rw [← hh, Bd.state]; rfl
  have N0 := Fr.nil n0
  have pre0 : ∀ t, Steps p.tables e below (s₁.setTop (mkF m 0 #[.val (.ref w_AND_BOTH_PERMIT), .val (.ref w_DENY), .val (.ref w_PERMIT)] [])) t → Steps p.tables e below (s₁.setTop (entryFrame m #[(.ref w_AND_BOTH_PERMIT), (.ref w_DENY), (.ref w_PERMIT)] 3)) t := fun t k => castTop (by first | (simp [entryFrame, mkF, argsToLocals, Value.category]; done) | rfl) k
  obtain ⟨cq1, kq1, q1a, q1b, q1c⟩ := isOf hZ e0 E_w_AND_BOTH_PERMIT
  obtain ⟨_, _, ⟨T1, L1, k1, n1⟩, -, X1, ⟨Lc1, hQ1, l1, y1, z1⟩, st1⟩ := X0.virtualBackUp hx (x := (⟨"com/example/tributary/tributary/AccessList$InheritanceType", "ordinal", "()I"⟩ : MethodName)) (y := (⟨"java/lang/Enum", "ordinal", "()I"⟩ : MethodName)) (owner := "java/lang/Enum") hown (mvT hZ (hw _ (List.mem_of_getElem? (i := 27) rfl))) (mvT hZ (hw _ (List.mem_of_getElem? (i := 28) rfl))) (mvT hZ (hw _ (List.mem_of_getElem? (i := 29) rfl))) (by decide) (mvT hZ (hw _ (List.mem_of_getElem? (i := 31) rfl))) (mvT hZ (hw _ (List.mem_of_getElem? (i := 30) rfl))) (backOf (W := 0) (rm2_w_AND_BOTH_PERMIT l Z a0 hw [] w_AND_BOTH_PERMIT h0 n0 Z0 F_ordinal_w_AND_BOTH_PERMIT) hZ (hw _ (List.mem_of_getElem? (i := 33) rfl)) (hw _ (List.mem_of_getElem? (i := 32) rfl)) (by decide) (by decide)) q1a q1c (g := (mkF m 1 #[.val (.ref w_AND_BOTH_PERMIT), .val (.ref w_DENY), .val (.ref w_PERMIT)] [(.ref w_AND_BOTH_PERMIT)])) rfl (by rw [hml]; rfl) (Steps.refl _) (argsL := []) (rest := []) (lenOf pd___I rfl) rfl (by show 2 * 0 + _ ≤ _; exact Nat.le_of_eq rfl) (hb hby d1_1) (fun _ _ => ⟨rfl, e0, (by decide : 0 + 0 ≤ _), (by decide : 0 + 0 ≤ _)⟩)
  dsimp only [Pt.U, Pt.locs, Pt.cells, Pt.slots] at X1 l1 y1 z1 st1 hQ1
  subst l1 y1 z1
  obtain ⟨rfl, N1q, e1⟩ := hQ1
  have N1 := Fr.app N0 N1q
  obtain ⟨T2, X2, e2, st2⟩ := getS2 X1 hx hZ hown (host := "") (Or.inl (hw _ (List.mem_of_getElem? (i := 37) rfl))) Via.refl e1 S_PERMIT (g := (mkF m 77 #[.val (.ref w_AND_BOTH_PERMIT), .val (.ref w_DENY), .val (.ref w_PERMIT)] [(.ref w_DENY)])) rfl (hb hby d1_77)
  obtain ⟨T3, X3, e3, st3⟩ := getS2 X2 hx hZ hown (host := "") (Or.inl (hw _ (List.mem_of_getElem? (i := 38) rfl))) Via.refl e2 S_DENY (g := (mkF m 96 #[.val (.ref w_AND_BOTH_PERMIT), .val (.ref w_DENY), .val (.ref w_PERMIT)] [])) rfl (hb hby d1_96)
  obtain ⟨fs, hr, hrun, hended, hW, hsame⟩ := X3.leave (v := some (.ref w_DENY)) (fun h => by rw [Bd.returns] at h; cases h)
  refine ⟨_, _, pre0 _ ?_, hrun, hended, _, _, rfl, ?_, ⟨_, rfl⟩, hW, hsame.mono (by decide) (by decide)⟩
  · show Steps p.tables e below (s₁.setTop (mkF m 0 #[.val (.ref w_AND_BOTH_PERMIT), .val (.ref w_DENY), .val (.ref w_PERMIT)] [])) _
    refine XS.aloadN X0.here hx rfl (hb hby d1_0) rfl rfl ?_
    show Steps p.tables e below (s₁.setTop (mkF m 1 #[.val (.ref w_AND_BOTH_PERMIT), .val (.ref w_DENY), .val (.ref w_PERMIT)] [(.ref w_AND_BOTH_PERMIT)])) _
    refine st1.trans ?_
    show Steps p.tables e below (T1.setTop (mkF m 4 #[.val (.ref w_AND_BOTH_PERMIT), .val (.ref w_DENY), .val (.ref w_PERMIT)] [(.int 2)])) _
    refine XS.tswIn X1.here hx rfl (pc0 := 4) (pc' := 76) rfl (hb hby d1_4) rfl (by decide) (o := 72) (by decide) (by decide) (by decide) ?_
    show Steps p.tables e below (T1.setTop (mkF m 76 #[.val (.ref w_AND_BOTH_PERMIT), .val (.ref w_DENY), .val (.ref w_PERMIT)] [])) _
    refine XS.aloadN X1.here hx rfl (hb hby d1_76) rfl rfl ?_
    show Steps p.tables e below (T1.setTop (mkF m 77 #[.val (.ref w_AND_BOTH_PERMIT), .val (.ref w_DENY), .val (.ref w_PERMIT)] [(.ref w_DENY)])) _
    refine st2 _ ?_
    show Steps p.tables e below (T2.setTop (mkF m 80 #[.val (.ref w_AND_BOTH_PERMIT), .val (.ref w_DENY), .val (.ref w_PERMIT)] [(.ref w_PERMIT), (.ref w_DENY)])) _
    refine Jvm.RoadKit.acmp (g := (mkF m 80 #[.val (.ref w_AND_BOTH_PERMIT), .val (.ref w_DENY), .val (.ref w_PERMIT)] [(.ref w_PERMIT), (.ref w_DENY)])) X2 hx rfl rfl rfl (pc0 := 80) (pc' := 96) (same := false) rfl (hb hby d1_80) rfl (decide_eq_false fun q => n_w_DENY_w_PERMIT (Value.ref.inj q)) (by decide) (by decide) ?_
    show Steps p.tables e below (T2.setTop (mkF m 96 #[.val (.ref w_AND_BOTH_PERMIT), .val (.ref w_DENY), .val (.ref w_PERMIT)] [])) _
    refine st3 _ ?_
    show Steps p.tables e below (T3.setTop (mkF m 99 #[.val (.ref w_AND_BOTH_PERMIT), .val (.ref w_DENY), .val (.ref w_PERMIT)] [(.ref w_DENY)])) _
    refine XS.goto X3.here hx rfl (pc0 := 99) (pc' := 112) rfl (hb hby d1_99) (by decide) (by decide) ?_
    show Steps p.tables e below (T3.setTop (mkF m 112 #[.val (.ref w_AND_BOTH_PERMIT), .val (.ref w_DENY), .val (.ref w_PERMIT)] [(.ref w_DENY)])) _
    jvm_step X3.here [X3.here.top, hx, (hb hby d1_112), X3.method', Bd.returns, Value.isRef, FieldType.isReference]
    first | (intro acts; rw [hr _ acts rfl rfl rfl]) | rw [hr _ _ rfl rfl rfl]
    exact Steps.refl _
  · show Q1_w_AND_BOTH_PERMIT_w_DENY_w_PERMIT Z w_AND_BOTH_PERMIT w_DENY w_PERMIT h0 n0 _ T3.heap _
    rw [e3]
    exact ⟨rfl, N1, rfl⟩
set_option maxRecDepth 65536 in
set_option maxHeartbeats 40000000 in
theorem pc0_k210 {p : Program} {l : Launch} {e : Env} {s : State} {m : MethodId} {args : Array Value} {below : List Frame} {meth : Method} {c : Code} {T0 : State} {locs : List Loc} {Z : State} {a0 : Array Value} {h0 : Heap} {n0 : Nat} (p1 : Int32) (p2 : Int32) (p3 : Int32) (b1 : Addr) (b8 : Addr) (b15 : Addr) (k1 : ClassId) (w_CHILD_OVERRIDES : Addr) (w_PARENT_OVERRIDES : Addr) (w_AND_BOTH_PERMIT : Addr) (k8 : ClassId) (w_PERMIT : Addr) (w_DENY : Addr) (w_INDETERMINATE : Addr) (k15 : ClassId)
    (X0 : Stand p l e room_1 s m args below meth c T0 locs 3 33) (hx : p.tables.exec = Jvm.exec) (hZ : Z.Warmed39 s.vm) (hw : ∀ d ∈ tables_1, d.before a0 Z = true) (hby : c.code = code) (hml : c.maxLocals = 10) (hown : s.vm.findClass "com/example/tributary/tributary/InheritanceTypeCombinePinLaw" = some m.cls) (e0 : T0.heap = h0) (Z0 : n0 ≤ h0.size) (N0 : Fr n0 locs) (V_b1 : Arv Z h0 b1 k1 (.object "com/example/tributary/tributary/AccessList$InheritanceType") (3 : Int32) [(.ref w_CHILD_OVERRIDES), (.ref w_PARENT_OVERRIDES), (.ref w_AND_BOTH_PERMIT)] .null) (V_b8 : Arv Z h0 b8 k8 (.object "com/example/tributary/tributary/AccessList$Decision") (3 : Int32) [(.ref w_PERMIT), (.ref w_DENY), (.ref w_INDETERMINATE)] .null) (F_ordinal_w_AND_BOTH_PERMIT : Fld Z h0 w_AND_BOTH_PERMIT "java/lang/Enum" "ordinal" "I" (.int 2)) (E_w_AND_BOTH_PERMIT : Exa Z h0 w_AND_BOTH_PERMIT "com/example/tributary/tributary/AccessList$InheritanceType") (S_PERMIT : Sta Z h0 "com/example/tributary/tributary/AccessList$Decision" "PERMIT" "Lcom/example/tributary/tributary/AccessList$Decision;" (.ref w_PERMIT)) (n_w_DENY_w_PERMIT : ¬ (w_DENY = w_PERMIT)) (S_DENY : Sta Z h0 "com/example/tributary/tributary/AccessList$Decision" "DENY" "Lcom/example/tributary/tributary/AccessList$Decision;" (.ref w_DENY)) (V_b15 : Arv Z h0 b15 k15 .int (27 : Int32) [(.int 0), (.int 1), (.int 0), (.int 0), (.int 1), (.int 1), (.int 0), (.int 1), (.int 2), (.int 0), (.int 0), (.int 0), (.int 1), (.int 1), (.int 1), (.int 0), (.int 1), (.int 2), (.int 0), (.int 1), (.int 1), (.int 1), (.int 1), (.int 1), (.int 1), (.int 1), (.int 1)] (.int (0 : Int32))) :
    ∃ (T' : State) (L' : List Loc) (Ls : Array Slot), Stand p l e room_1 s m args below meth c T' L' 3 33 ∧ Fr n0 L' ∧ ∀ target, Steps p.tables e below (T'.setTop (mkF m 253 Ls [(.int 1)])) target → Steps p.tables e below (T0.setTop (mkF m 206 #[.val (.int p1), .val (.int p2), .val (.int p3), .val (.int 2), .val (.int 1), .val (.int 0), .val (.ref b1), .val (.ref b8), .val (.ref b15), .unset] [])) target := by
  obtain ⟨cq1, kq1, q1a, q1b, q1c⟩ := isOf hZ e0 E_w_AND_BOTH_PERMIT
  obtain ⟨_, _, ⟨T1, L1, k1, n1⟩, -, X1, ⟨Lc1, hQ1, l1, y1, z1⟩, st1⟩ := X0.virtualBack hx (y := (⟨"com/example/tributary/tributary/AccessList$InheritanceType", "combine", "(Lcom/example/tributary/tributary/AccessList$Decision;Lcom/example/tributary/tributary/AccessList$Decision;)Lcom/example/tributary/tributary/AccessList$Decision;"⟩ : MethodName)) (z := (⟨"com/example/tributary/tributary/AccessList$InheritanceType", "combine", "(Lcom/example/tributary/tributary/AccessList$Decision;Lcom/example/tributary/tributary/AccessList$Decision;)Lcom/example/tributary/tributary/AccessList$Decision;"⟩ : MethodName)) hown (mvT hZ (hw _ (List.mem_of_getElem? (i := 22) rfl))) (mvT hZ (hw _ (List.mem_of_getElem? (i := 23) rfl))) (notFace_of_selects (args := #[]) (mvT hZ (hw _ (List.mem_of_getElem? (i := 25) rfl)))) (mvT hZ (hw _ (List.mem_of_getElem? (i := 25) rfl))) (mvT hZ (hw _ (List.mem_of_getElem? (i := 24) rfl))) (by decide) (backOf (W := 0) (rm1_w_AND_BOTH_PERMIT_w_DENY_w_PERMIT l Z a0 hw [] w_AND_BOTH_PERMIT w_DENY w_PERMIT h0 n0 Z0 F_ordinal_w_AND_BOTH_PERMIT E_w_AND_BOTH_PERMIT S_PERMIT n_w_DENY_w_PERMIT S_DENY) hZ (hw _ (List.mem_of_getElem? (i := 26) rfl)) (hw _ (List.mem_of_getElem? (i := 4) rfl)) (by decide) (by decide)) q1a q1c (g := (mkF m 220 #[.val (.int p1), .val (.int p2), .val (.int p3), .val (.int 2), .val (.int 1), .val (.int 0), .val (.ref b1), .val (.ref b8), .val (.ref b15), .unset] [(.ref w_PERMIT), (.ref w_DENY), (.ref w_AND_BOTH_PERMIT)])) rfl (by rw [hml]; rfl) (Steps.refl _) (argsL := [(.ref w_DENY), (.ref w_PERMIT)]) (rest := []) (lenOf pd__Lcom_example_tributary_tributary_AccessList_Decision_Lcom_example_tributary_tributary_AccessList_Decision__Lcom_example_tributary_tributary_AccessList_Decision_ rfl) rfl (by show 2 * 0 + _ ≤ _; exact Nat.le_of_eq rfl) (hb hby at_220) (fun _ _ => ⟨rfl, e0, (by decide : 3 + 0 ≤ _), (by decide : 33 + 0 ≤ _)⟩)
  dsimp only [Pt.U, Pt.locs, Pt.cells, Pt.slots] at X1 l1 y1 z1 st1 hQ1
  subst l1 y1 z1
  obtain ⟨rfl, N1q, e1⟩ := hQ1
  have N1 := Fr.app N0 N1q
  refine ⟨T1, _, #[.val (.int p1), .val (.int p2), .val (.int p3), .val (.int 2), .val (.int 1), .val (.int 0), .val (.ref b1), .val (.ref b8), .val (.ref b15), .val (.ref w_DENY)], X1, N1, fun target kt => ?_⟩
  show Steps p.tables e below (T0.setTop (mkF m 206 #[.val (.int p1), .val (.int p2), .val (.int p3), .val (.int 2), .val (.int 1), .val (.int 0), .val (.ref b1), .val (.ref b8), .val (.ref b15), .unset] [])) _
  refine XS.aload X0.here hx rfl (hb hby at_206) rfl rfl ?_
  show Steps p.tables e below (T0.setTop (mkF m 208 #[.val (.int p1), .val (.int p2), .val (.int p3), .val (.int 2), .val (.int 1), .val (.int 0), .val (.ref b1), .val (.ref b8), .val (.ref b15), .unset] [(.ref b1)])) _
  refine XS.iloadN X0.here hx rfl (hb hby at_208) rfl ?_
  show Steps p.tables e below (T0.setTop (mkF m 209 #[.val (.int p1), .val (.int p2), .val (.int p3), .val (.int 2), .val (.int 1), .val (.int 0), .val (.ref b1), .val (.ref b8), .val (.ref b15), .unset] [(.int 2), (.ref b1)])) _
  refine own_ldR X0 hx hZ e0 V_b1 (j := (2 : Int32)) ⟨by decide, by decide⟩ rfl (g := (mkF m 209 #[.val (.int p1), .val (.int p2), .val (.int p3), .val (.int 2), .val (.int 1), .val (.int 0), .val (.ref b1), .val (.ref b8), .val (.ref b15), .unset] [(.int 2), (.ref b1)])) rfl rfl (hb hby at_209) _ ?_
  show Steps p.tables e below (T0.setTop (mkF m 210 #[.val (.int p1), .val (.int p2), .val (.int p3), .val (.int 2), .val (.int 1), .val (.int 0), .val (.ref b1), .val (.ref b8), .val (.ref b15), .unset] [(.ref w_AND_BOTH_PERMIT)])) _
  refine XS.aload X0.here hx rfl (hb hby at_210) rfl rfl ?_
  show Steps p.tables e below (T0.setTop (mkF m 212 #[.val (.int p1), .val (.int p2), .val (.int p3), .val (.int 2), .val (.int 1), .val (.int 0), .val (.ref b1), .val (.ref b8), .val (.ref b15), .unset] [(.ref b8), (.ref w_AND_BOTH_PERMIT)])) _
  refine XS.iload X0.here hx rfl (hb hby at_212) rfl ?_
  show Steps p.tables e below (T0.setTop (mkF m 214 #[.val (.int p1), .val (.int p2), .val (.int p3), .val (.int 2), .val (.int 1), .val (.int 0), .val (.ref b1), .val (.ref b8), .val (.ref b15), .unset] [(.int 1), (.ref b8), (.ref w_AND_BOTH_PERMIT)])) _
  refine own_ldR X0 hx hZ e0 V_b8 (j := (1 : Int32)) ⟨by decide, by decide⟩ rfl (g := (mkF m 214 #[.val (.int p1), .val (.int p2), .val (.int p3), .val (.int 2), .val (.int 1), .val (.int 0), .val (.ref b1), .val (.ref b8), .val (.ref b15), .unset] [(.int 1), (.ref b8), (.ref w_AND_BOTH_PERMIT)])) rfl rfl (hb hby at_214) _ ?_
  show Steps p.tables e below (T0.setTop (mkF m 215 #[.val (.int p1), .val (.int p2), .val (.int p3), .val (.int 2), .val (.int 1), .val (.int 0), .val (.ref b1), .val (.ref b8), .val (.ref b15), .unset] [(.ref w_DENY), (.ref w_AND_BOTH_PERMIT)])) _
  refine XS.aload X0.here hx rfl (hb hby at_215) rfl rfl ?_
  show Steps p.tables e below (T0.setTop (mkF m 217 #[.val (.int p1), .val (.int p2), .val (.int p3), .val (.int 2), .val (.int 1), .val (.int 0), .val (.ref b1), .val (.ref b8), .val (.ref b15), .unset] [(.ref b8), (.ref w_DENY), (.ref w_AND_BOTH_PERMIT)])) _
  refine XS.iload X0.here hx rfl (hb hby at_217) rfl ?_
  show Steps p.tables e below (T0.setTop (mkF m 219 #[.val (.int p1), .val (.int p2), .val (.int p3), .val (.int 2), .val (.int 1), .val (.int 0), .val (.ref b1), .val (.ref b8), .val (.ref b15), .unset] [(.int 0), (.ref b8), (.ref w_DENY), (.ref w_AND_BOTH_PERMIT)])) _
  refine own_ldR X0 hx hZ e0 V_b8 (j := (0 : Int32)) ⟨by decide, by decide⟩ rfl (g := (mkF m 219 #[.val (.int p1), .val (.int p2), .val (.int p3), .val (.int 2), .val (.int 1), .val (.int 0), .val (.ref b1), .val (.ref b8), .val (.ref b15), .unset] [(.int 0), (.ref b8), (.ref w_DENY), (.ref w_AND_BOTH_PERMIT)])) rfl rfl (hb hby at_219) _ ?_
  show Steps p.tables e below (T0.setTop (mkF m 220 #[.val (.int p1), .val (.int p2), .val (.int p3), .val (.int 2), .val (.int 1), .val (.int 0), .val (.ref b1), .val (.ref b8), .val (.ref b15), .unset] [(.ref w_PERMIT), (.ref w_DENY), (.ref w_AND_BOTH_PERMIT)])) _
  refine st1.trans ?_
  show Steps p.tables e below (T1.setTop (mkF m 223 #[.val (.int p1), .val (.int p2), .val (.int p3), .val (.int 2), .val (.int 1), .val (.int 0), .val (.ref b1), .val (.ref b8), .val (.ref b15), .unset] [(.ref w_DENY)])) _
  refine XS.astore X1.here hx rfl (hb hby at_223) rfl rfl (l' := #[.val (.int p1), .val (.int p2), .val (.int p3), .val (.int 2), .val (.int 1), .val (.int 0), .val (.ref b1), .val (.ref b8), .val (.ref b15), .val (.ref w_DENY)]) rfl ?_
  show Steps p.tables e below (T1.setTop (mkF m 225 #[.val (.int p1), .val (.int p2), .val (.int p3), .val (.int 2), .val (.int 1), .val (.int 0), .val (.ref b1), .val (.ref b8), .val (.ref b15), .val (.ref w_DENY)] [])) _
  refine XS.aload X1.here hx rfl (hb hby at_225) rfl rfl ?_
  show Steps p.tables e below (T1.setTop (mkF m 227 #[.val (.int p1), .val (.int p2), .val (.int p3), .val (.int 2), .val (.int 1), .val (.int 0), .val (.ref b1), .val (.ref b8), .val (.ref b15), .val (.ref w_DENY)] [(.ref w_DENY)])) _
  refine XS.aload X1.here hx rfl (hb hby at_227) rfl rfl ?_
  show Steps p.tables e below (T1.setTop (mkF m 229 #[.val (.int p1), .val (.int p2), .val (.int p3), .val (.int 2), .val (.int 1), .val (.int 0), .val (.ref b1), .val (.ref b8), .val (.ref b15), .val (.ref w_DENY)] [(.ref b8), (.ref w_DENY)])) _
  refine XS.aload X1.here hx rfl (hb hby at_229) rfl rfl ?_
  show Steps p.tables e below (T1.setTop (mkF m 231 #[.val (.int p1), .val (.int p2), .val (.int p3), .val (.int 2), .val (.int 1), .val (.int 0), .val (.ref b1), .val (.ref b8), .val (.ref b15), .val (.ref w_DENY)] [(.ref b15), (.ref b8), (.ref w_DENY)])) _
  refine XS.iloadN X1.here hx rfl (hb hby at_231) rfl ?_
  show Steps p.tables e below (T1.setTop (mkF m 232 #[.val (.int p1), .val (.int p2), .val (.int p3), .val (.int 2), .val (.int 1), .val (.int 0), .val (.ref b1), .val (.ref b8), .val (.ref b15), .val (.ref w_DENY)] [(.int 2), (.ref b15), (.ref b8), (.ref w_DENY)])) _
  refine XS.bipush X1.here hx rfl (hb hby at_232) ?_
  show Steps p.tables e below (T1.setTop (mkF m 234 #[.val (.int p1), .val (.int p2), .val (.int p3), .val (.int 2), .val (.int 1), .val (.int 0), .val (.ref b1), .val (.ref b8), .val (.ref b15), .val (.ref w_DENY)] [(.int 9), (.int 2), (.ref b15), (.ref b8), (.ref w_DENY)])) _
  refine XS.imul X1.here hx rfl (hb hby at_234) rfl ?_
  show Steps p.tables e below (T1.setTop (mkF m 235 #[.val (.int p1), .val (.int p2), .val (.int p3), .val (.int 2), .val (.int 1), .val (.int 0), .val (.ref b1), .val (.ref b8), .val (.ref b15), .val (.ref w_DENY)] [(.int ((2 : Int32) * (9 : Int32))), (.ref b15), (.ref b8), (.ref w_DENY)])) _
  rw [(by decide : ((2 : Int32) * (9 : Int32)) = (18 : Int32))]
  show Steps p.tables e below (T1.setTop (mkF m 235 #[.val (.int p1), .val (.int p2), .val (.int p3), .val (.int 2), .val (.int 1), .val (.int 0), .val (.ref b1), .val (.ref b8), .val (.ref b15), .val (.ref w_DENY)] [(.int 18), (.ref b15), (.ref b8), (.ref w_DENY)])) _
  refine XS.iload X1.here hx rfl (hb hby at_235) rfl ?_
  show Steps p.tables e below (T1.setTop (mkF m 237 #[.val (.int p1), .val (.int p2), .val (.int p3), .val (.int 2), .val (.int 1), .val (.int 0), .val (.ref b1), .val (.ref b8), .val (.ref b15), .val (.ref w_DENY)] [(.int 1), (.int 18), (.ref b15), (.ref b8), (.ref w_DENY)])) _
  refine XS.iconst X1.here hx rfl (hb hby at_237) ?_
  show Steps p.tables e below (T1.setTop (mkF m 238 #[.val (.int p1), .val (.int p2), .val (.int p3), .val (.int 2), .val (.int 1), .val (.int 0), .val (.ref b1), .val (.ref b8), .val (.ref b15), .val (.ref w_DENY)] [(.int 3), (.int 1), (.int 18), (.ref b15), (.ref b8), (.ref w_DENY)])) _
  refine XS.imul X1.here hx rfl (hb hby at_238) rfl ?_
  show Steps p.tables e below (T1.setTop (mkF m 239 #[.val (.int p1), .val (.int p2), .val (.int p3), .val (.int 2), .val (.int 1), .val (.int 0), .val (.ref b1), .val (.ref b8), .val (.ref b15), .val (.ref w_DENY)] [(.int ((1 : Int32) * (3 : Int32))), (.int 18), (.ref b15), (.ref b8), (.ref w_DENY)])) _
  rw [(by decide : ((1 : Int32) * (3 : Int32)) = (3 : Int32))]
  show Steps p.tables e below (T1.setTop (mkF m 239 #[.val (.int p1), .val (.int p2), .val (.int p3), .val (.int 2), .val (.int 1), .val (.int 0), .val (.ref b1), .val (.ref b8), .val (.ref b15), .val (.ref w_DENY)] [(.int 3), (.int 18), (.ref b15), (.ref b8), (.ref w_DENY)])) _
  refine XS.iadd X1.here hx rfl (hb hby at_239) rfl ?_
  show Steps p.tables e below (T1.setTop (mkF m 240 #[.val (.int p1), .val (.int p2), .val (.int p3), .val (.int 2), .val (.int 1), .val (.int 0), .val (.ref b1), .val (.ref b8), .val (.ref b15), .val (.ref w_DENY)] [(.int ((18 : Int32) + (3 : Int32))), (.ref b15), (.ref b8), (.ref w_DENY)])) _
  rw [(by decide : ((18 : Int32) + (3 : Int32)) = (21 : Int32))]
  show Steps p.tables e below (T1.setTop (mkF m 240 #[.val (.int p1), .val (.int p2), .val (.int p3), .val (.int 2), .val (.int 1), .val (.int 0), .val (.ref b1), .val (.ref b8), .val (.ref b15), .val (.ref w_DENY)] [(.int 21), (.ref b15), (.ref b8), (.ref w_DENY)])) _
  refine XS.iload X1.here hx rfl (hb hby at_240) rfl ?_
  show Steps p.tables e below (T1.setTop (mkF m 242 #[.val (.int p1), .val (.int p2), .val (.int p3), .val (.int 2), .val (.int 1), .val (.int 0), .val (.ref b1), .val (.ref b8), .val (.ref b15), .val (.ref w_DENY)] [(.int 0), (.int 21), (.ref b15), (.ref b8), (.ref w_DENY)])) _
  refine XS.iadd X1.here hx rfl (hb hby at_242) rfl ?_
  show Steps p.tables e below (T1.setTop (mkF m 243 #[.val (.int p1), .val (.int p2), .val (.int p3), .val (.int 2), .val (.int 1), .val (.int 0), .val (.ref b1), .val (.ref b8), .val (.ref b15), .val (.ref w_DENY)] [(.int ((21 : Int32) + (0 : Int32))), (.ref b15), (.ref b8), (.ref w_DENY)])) _
  rw [(by decide : ((21 : Int32) + (0 : Int32)) = (21 : Int32))]
  show Steps p.tables e below (T1.setTop (mkF m 243 #[.val (.int p1), .val (.int p2), .val (.int p3), .val (.int 2), .val (.int 1), .val (.int 0), .val (.ref b1), .val (.ref b8), .val (.ref b15), .val (.ref w_DENY)] [(.int 21), (.ref b15), (.ref b8), (.ref w_DENY)])) _
  refine own_ldI X1 hx hZ e1 V_b15 (j := (21 : Int32)) ⟨by decide, by decide⟩ rfl (g := (mkF m 243 #[.val (.int p1), .val (.int p2), .val (.int p3), .val (.int 2), .val (.int 1), .val (.int 0), .val (.ref b1), .val (.ref b8), .val (.ref b15), .val (.ref w_DENY)] [(.int 21), (.ref b15), (.ref b8), (.ref w_DENY)])) rfl rfl (hb hby at_243) _ ?_
  show Steps p.tables e below (T1.setTop (mkF m 244 #[.val (.int p1), .val (.int p2), .val (.int p3), .val (.int 2), .val (.int 1), .val (.int 0), .val (.ref b1), .val (.ref b8), .val (.ref b15), .val (.ref w_DENY)] [(.int 1), (.ref b8), (.ref w_DENY)])) _
  refine own_ldR X1 hx hZ e1 V_b8 (j := (1 : Int32)) ⟨by decide, by decide⟩ rfl (g := (mkF m 244 #[.val (.int p1), .val (.int p2), .val (.int p3), .val (.int 2), .val (.int 1), .val (.int 0), .val (.ref b1), .val (.ref b8), .val (.ref b15), .val (.ref w_DENY)] [(.int 1), (.ref b8), (.ref w_DENY)])) rfl rfl (hb hby at_244) _ ?_
  show Steps p.tables e below (T1.setTop (mkF m 245 #[.val (.int p1), .val (.int p2), .val (.int p3), .val (.int 2), .val (.int 1), .val (.int 0), .val (.ref b1), .val (.ref b8), .val (.ref b15), .val (.ref w_DENY)] [(.ref w_DENY), (.ref w_DENY)])) _
  refine Jvm.RoadKit.acmp (g := (mkF m 245 #[.val (.int p1), .val (.int p2), .val (.int p3), .val (.int 2), .val (.int 1), .val (.int 0), .val (.ref b1), .val (.ref b8), .val (.ref b15), .val (.ref w_DENY)] [(.ref w_DENY), (.ref w_DENY)])) X1 hx rfl rfl rfl (pc0 := 245) (pc' := 248) (same := true) rfl (hb hby at_245) rfl (decide_eq_true rfl) (by decide) (by decide) ?_
  show Steps p.tables e below (T1.setTop (mkF m 248 #[.val (.int p1), .val (.int p2), .val (.int p3), .val (.int 2), .val (.int 1), .val (.int 0), .val (.ref b1), .val (.ref b8), .val (.ref b15), .val (.ref w_DENY)] [])) _
  refine XS.iconst X1.here hx rfl (hb hby at_248) ?_
  show Steps p.tables e below (T1.setTop (mkF m 249 #[.val (.int p1), .val (.int p2), .val (.int p3), .val (.int 2), .val (.int 1), .val (.int 0), .val (.ref b1), .val (.ref b8), .val (.ref b15), .val (.ref w_DENY)] [(.int 1)])) _
  refine XS.goto X1.here hx rfl (pc0 := 249) (pc' := 253) rfl (hb hby at_249) (by decide) (by decide) ?_
  show Steps p.tables e below (T1.setTop (mkF m 253 #[.val (.int p1), .val (.int p2), .val (.int p3), .val (.int 2), .val (.int 1), .val (.int 0), .val (.ref b1), .val (.ref b8), .val (.ref b15), .val (.ref w_DENY)] [(.int 1)])) _
  exact kt
def Q1_w_AND_BOTH_PERMIT_w_DENY_w_DENY (Z : State) (w_AND_BOTH_PERMIT : Addr) (w_DENY : Addr) (w_PERMIT : Addr) (h0 : Heap) (n0 : Nat) (v : Option Value) (h : Heap) (L : List Loc) : Prop := v = some (.ref w_DENY) ∧ Fr n0 L ∧ h = h0
set_option maxRecDepth 65536 in
set_option maxHeartbeats 40000000 in
theorem rm1_w_AND_BOTH_PERMIT_w_DENY_w_DENY (l : Launch) (Z : State) (a0 : Array Value) (hw : ∀ d ∈ tables_1, d.before a0 Z = true) (ws : List Jvm.Cond) (w_AND_BOTH_PERMIT : Addr) (w_DENY : Addr) (w_PERMIT : Addr) (h0 : Heap) (n0 : Nat) (Z0 : n0 ≤ h0.size) (F_ordinal_w_AND_BOTH_PERMIT : Fld Z h0 w_AND_BOTH_PERMIT "java/lang/Enum" "ordinal" "I" (.int 2)) (E_w_AND_BOTH_PERMIT : Exa Z h0 w_AND_BOTH_PERMIT "com/example/tributary/tributary/AccessList$InheritanceType") (S_PERMIT : Sta Z h0 "com/example/tributary/tributary/AccessList$Decision" "PERMIT" "Lcom/example/tributary/tributary/AccessList$Decision;" (.ref w_PERMIT)) (n_w_DENY_w_PERMIT : ¬ (w_DENY = w_PERMIT)) (S_DENY : Sta Z h0 "com/example/tributary/tributary/AccessList$Decision" "DENY" "Lcom/example/tributary/tributary/AccessList$Decision;" (.ref w_DENY)) :
    MetFree l (⟨"com/example/tributary/tributary/AccessList$InheritanceType", "combine", "(Lcom/example/tributary/tributary/AccessList$Decision;Lcom/example/tributary/tributary/AccessList$Decision;)Lcom/example/tributary/tributary/AccessList$Decision;"⟩ : MethodName) (head1 (Jvm.Cond.code (⟨"com/example/tributary/tributary/AccessList$InheritanceType", "combine", "(Lcom/example/tributary/tributary/AccessList$Decision;Lcom/example/tributary/tributary/AccessList$Decision;)Lcom/example/tributary/tributary/AccessList$Decision;"⟩ : MethodName) prog_6_method_4_code 3 (some (.object "com/example/tributary/tributary/AccessList$Decision")) :: ws) ({ frames := 1, cells := 0, slots := 0, locals := 12 } : Room)) (fun a U => a = #[(.ref w_AND_BOTH_PERMIT), (.ref w_DENY), (.ref w_DENY)] ∧ Z.Warmed39 U.vm ∧ U.heap = h0) (fun _ _ _ _ _ => True) (fun _ U o U' => ∃ v L, o = .returned v ∧ Q1_w_AND_BOTH_PERMIT_w_DENY_w_DENY Z w_AND_BOTH_PERMIT w_DENY w_PERMIT h0 n0 v U'.heap L ∧ FrameEnd U o U' L ({ frames := 1, cells := 0, slots := 0, locals := 12 } : Room).cells ({ frames := 1, cells := 0, slots := 0, locals := 12 } : Room).slots) := by
  refine MetFree.of_bodySF (plainFor_of_name pn_1) hisR ?_
  intro p e s m args below meth c s₁ Bd hml0 hP hK
  obtain ⟨rfl, hZ, hh⟩ := hP
  have hx := Bd.exec
  have hby := Bd.bytes
  have hml : c.maxLocals = 3 := hml0
  have hown : s.vm.findClass "com/example/tributary/tributary/AccessList$InheritanceType" = some m.cls := findClass_of_methodNamed Bd.named
  have hnm := (name_of_methodNamed Bd.named Bd.method).1
  have X0 : Stand p l e ({ frames := 1, cells := 0, slots := 0, locals := 12 } : Room) s m #[(.ref w_AND_BOTH_PERMIT), (.ref w_DENY), (.ref w_DENY)] below meth c s₁ [] 0 0 := Stand.of_body Bd
  have e0 : s₁.heap = h0 := by rw [← hh, Bd.state]; rfl
  have N0 := Fr.nil n0
  have pre0 : ∀ t, Steps p.tables e below (s₁.setTop (mkF m 0 #[.val (.ref w_AND_BOTH_PERMIT), .val (.ref w_DENY), .val (.ref w_DENY)] [])) t → Steps p.tables e below (s₁.setTop (entryFrame m #[(.ref w_AND_BOTH_PERMIT), (.ref w_DENY), (.ref w_DENY)] 3)) t := fun t k => castTop (by first | (simp [entryFrame, mkF, argsToLocals, Value.category]; done) | rfl) k
  obtain ⟨cq1, kq1, q1a, q1b, q1c⟩ := isOf hZ e0 E_w_AND_BOTH_PERMIT
  obtain ⟨_, _, ⟨T1, L1, k1, n1⟩, -, X1, ⟨Lc1, hQ1, l1, y1, z1⟩, st1⟩ := X0.virtualBackUp hx (x := (⟨"com/example/tributary/tributary/AccessList$InheritanceType", "ordinal", "()I"⟩ : MethodName)) (y := (⟨"java/lang/Enum", "ordinal", "()I"⟩ : MethodName)) (owner := "java/lang/Enum") hown (mvT hZ (hw _ (List.mem_of_getElem? (i := 27) rfl))) (mvT hZ (hw _ (List.mem_of_getElem? (i := 28) rfl))) (mvT hZ (hw _ (List.mem_of_getElem? (i := 29) rfl))) (by decide) (mvT hZ (hw _ (List.mem_of_getElem? (i := 31) rfl))) (mvT hZ (hw _ (List.mem_of_getElem? (i := 30) rfl))) (backOf (W := 0) (rm2_w_AND_BOTH_PERMIT l Z a0 hw [] w_AND_BOTH_PERMIT h0 n0 Z0 F_ordinal_w_AND_BOTH_PERMIT) hZ (hw _ (List.mem_of_getElem? (i := 33) rfl)) (hw _ (List.mem_of_getElem? (i := 32) rfl)) (by decide) (by decide)) q1a q1c (g := (mkF m 1 #[.val (.ref w_AND_BOTH_PERMIT), .val (.ref w_DENY), .val (.ref w_DENY)] [(.ref w_AND_BOTH_PERMIT)])) rfl (by rw [hml]; rfl) (Steps.refl _) (argsL := []) (rest := []) (lenOf pd___I rfl) rfl (by show 2 * 0 + _ ≤ _; exact Nat.le_of_eq rfl) (hb hby d1_1) (fun _ _ => ⟨rfl, e0, (by decide : 0 + 0 ≤ _), (by decide : 0 + 0 ≤ _)⟩)
  dsimp only [Pt.U, Pt.locs, Pt.cells, Pt.slots] at X1 l1 y1 z1 st1 hQ1
  subst l1 y1 z1
  obtain ⟨rfl, N1q, e1⟩ := hQ1
  have N1 := Fr.app N0 N1q
  obtain ⟨T2, X2, e2, st2⟩ := getS2 X1 hx hZ hown (host := "") (Or.inl (hw _ (List.mem_of_getElem? (i := 37) rfl))) Via.refl e1 S_PERMIT (g := (mkF m 77 #[.val (.ref w_AND_BOTH_PERMIT), .val (.ref w_DENY), .val (.ref w_DENY)] [(.ref w_DENY)])) rfl (hb hby d1_77)
  obtain ⟨T3, X3, e3, st3⟩ := getS2 X2 hx hZ hown (host := "") (Or.inl (hw _ (List.mem_of_getElem? (i := 38) rfl))) Via.refl e2 S_DENY (g := (mkF m 96 #[.val (.ref w_AND_BOTH_PERMIT), .val (.ref w_DENY), .val (.ref w_DENY)] [])) rfl (hb hby d1_96)
  obtain ⟨fs, hr, hrun, hended, hW, hsame⟩ := X3.leave (v := some (.ref w_DENY)) (fun h => by rw [Bd.returns] at h; cases h)
  refine ⟨_, _, pre0 _ ?_, hrun, hended, _, _, rfl, ?_, ⟨_, rfl⟩, hW, hsame.mono (by decide) (by decide)⟩
  · show Steps p.tables e below (s₁.setTop (mkF m 0 #[.val (.ref w_AND_BOTH_PERMIT), .val (.ref w_DENY), .val (.ref w_DENY)] [])) _
    refine XS.aloadN X0.here hx rfl (hb hby d1_0) rfl rfl ?_
    show Steps p.tables e below (s₁.setTop (mkF m 1 #[.val (.ref w_AND_BOTH_PERMIT), .val (.ref w_DENY), .val (.ref w_DENY)] [(.ref w_AND_BOTH_PERMIT)])) _
    refine st1.trans ?_
    show Steps p.tables e below (T1.setTop (mkF m 4 #[.val (.ref w_AND_BOTH_PERMIT), .val (.ref w_DENY), .val (.ref w_DENY)] [(.int 2)])) _
    refine XS.tswIn X1.here hx rfl (pc0 := 4) (pc' := 76) rfl (hb hby d1_4) rfl (by decide) (o := 72) (by decide) (by decide) (by decide) ?_
    show Steps p.tables e below (T1.setTop (mkF m 76 #[.val (.ref w_AND_BOTH_PERMIT), .val (.ref w_DENY), .val (.ref w_DENY)] [])) _
    refine XS.aloadN X1.here hx rfl (hb hby d1_76) rfl rfl ?_
    show Steps p.tables e below (T1.setTop (mkF m 77 #[.val (.ref w_AND_BOTH_PERMIT), .val (.ref w_DENY), .val (.ref w_DENY)] [(.ref w_DENY)])) _
    refine st2 _ ?_
    show Steps p.tables e below (T2.setTop (mkF m 80 #[.val (.ref w_AND_BOTH_PERMIT), .val (.ref w_DENY), .val (.ref w_DENY)] [(.ref w_PERMIT), (.ref w_DENY)])) _
    refine Jvm.RoadKit.acmp (g := (mkF m 80 #[.val (.ref w_AND_BOTH_PERMIT), .val (.ref w_DENY), .val (.ref w_DENY)] [(.ref w_PERMIT), (.ref w_DENY)])) X2 hx rfl rfl rfl (pc0 := 80) (pc' := 96) (same := false) rfl (hb hby d1_80) rfl (decide_eq_false fun q => n_w_DENY_w_PERMIT (Value.ref.inj q)) (by decide) (by decide) ?_
    show Steps p.tables e below (T2.setTop (mkF m 96 #[.val (.ref w_AND_BOTH_PERMIT), .val (.ref w_DENY), .val (.ref w_DENY)] [])) _
    refine st3 _ ?_
    show Steps p.tables e below (T3.setTop (mkF m 99 #[.val (.ref w_AND_BOTH_PERMIT), .val (.ref w_DENY), .val (.ref w_DENY)] [(.ref w_DENY)])) _
    refine XS.goto X3.here hx rfl (pc0 := 99) (pc' := 112) rfl (hb hby d1_99) (by decide) (by decide) ?_
    show Steps p.tables e below (T3.setTop (mkF m 112 #[.val (.ref w_AND_BOTH_PERMIT), .val (.ref w_DENY), .val (.ref w_DENY)] [(.ref w_DENY)])) _
    jvm_step X3.here [X3.here.top, hx, (hb hby d1_112), X3.method', Bd.returns, Value.isRef, FieldType.isReference]
    first | (intro acts; rw [hr _ acts rfl rfl rfl]) | rw [hr _ _ rfl rfl rfl]
    exact Steps.refl _
  · show Q1_w_AND_BOTH_PERMIT_w_DENY_w_DENY Z w_AND_BOTH_PERMIT w_DENY w_PERMIT h0 n0 _ T3.heap _
    rw [e3]
    exact ⟨rfl, N1, rfl⟩
set_option maxRecDepth 65536 in
set_option maxHeartbeats 40000000 in
theorem pc0_k211 {p : Program} {l : Launch} {e : Env} {s : State} {m : MethodId} {args : Array Value} {below : List Frame} {meth : Method} {c : Code} {T0 : State} {locs : List Loc} {Z : State} {a0 : Array Value} {h0 : Heap} {n0 : Nat} (p1 : Int32) (p2 : Int32) (p3 : Int32) (b1 : Addr) (b8 : Addr) (b15 : Addr) (k1 : ClassId) (w_CHILD_OVERRIDES : Addr) (w_PARENT_OVERRIDES : Addr) (w_AND_BOTH_PERMIT : Addr) (k8 : ClassId) (w_PERMIT : Addr) (w_DENY : Addr) (w_INDETERMINATE : Addr) (k15 : ClassId)
    (X0 : Stand p l e room_1 s m args below meth c T0 locs 3 33) (hx : p.tables.exec = Jvm.exec) (hZ : Z.Warmed39 s.vm) (hw : ∀ d ∈ tables_1, d.before a0 Z = true) (hby : c.code = code) (hml : c.maxLocals = 10) (hown : s.vm.findClass "com/example/tributary/tributary/InheritanceTypeCombinePinLaw" = some m.cls) (e0 : T0.heap = h0) (Z0 : n0 ≤ h0.size) (N0 : Fr n0 locs) (V_b1 : Arv Z h0 b1 k1 (.object "com/example/tributary/tributary/AccessList$InheritanceType") (3 : Int32) [(.ref w_CHILD_OVERRIDES), (.ref w_PARENT_OVERRIDES), (.ref w_AND_BOTH_PERMIT)] .null) (V_b8 : Arv Z h0 b8 k8 (.object "com/example/tributary/tributary/AccessList$Decision") (3 : Int32) [(.ref w_PERMIT), (.ref w_DENY), (.ref w_INDETERMINATE)] .null) (F_ordinal_w_AND_BOTH_PERMIT : Fld Z h0 w_AND_BOTH_PERMIT "java/lang/Enum" "ordinal" "I" (.int 2)) (E_w_AND_BOTH_PERMIT : Exa Z h0 w_AND_BOTH_PERMIT "com/example/tributary/tributary/AccessList$InheritanceType") (S_PERMIT : Sta Z h0 "com/example/tributary/tributary/AccessList$Decision" "PERMIT" "Lcom/example/tributary/tributary/AccessList$Decision;" (.ref w_PERMIT)) (n_w_DENY_w_PERMIT : ¬ (w_DENY = w_PERMIT)) (S_DENY : Sta Z h0 "com/example/tributary/tributary/AccessList$Decision" "DENY" "Lcom/example/tributary/tributary/AccessList$Decision;" (.ref w_DENY)) (V_b15 : Arv Z h0 b15 k15 .int (27 : Int32) [(.int 0), (.int 1), (.int 0), (.int 0), (.int 1), (.int 1), (.int 0), (.int 1), (.int 2), (.int 0), (.int 0), (.int 0), (.int 1), (.int 1), (.int 1), (.int 0), (.int 1), (.int 2), (.int 0), (.int 1), (.int 1), (.int 1), (.int 1), (.int 1), (.int 1), (.int 1), (.int 1)] (.int (0 : Int32))) :
    ∃ (T' : State) (L' : List Loc) (Ls : Array Slot), Stand p l e room_1 s m args below meth c T' L' 3 33 ∧ Fr n0 L' ∧ ∀ target, Steps p.tables e below (T'.setTop (mkF m 253 Ls [(.int 1)])) target → Steps p.tables e below (T0.setTop (mkF m 206 #[.val (.int p1), .val (.int p2), .val (.int p3), .val (.int 2), .val (.int 1), .val (.int 1), .val (.ref b1), .val (.ref b8), .val (.ref b15), .unset] [])) target := by
  obtain ⟨cq1, kq1, q1a, q1b, q1c⟩ := isOf hZ e0 E_w_AND_BOTH_PERMIT
  obtain ⟨_, _, ⟨T1, L1, k1, n1⟩, -, X1, ⟨Lc1, hQ1, l1, y1, z1⟩, st1⟩ := X0.virtualBack hx (y := (⟨"com/example/tributary/tributary/AccessList$InheritanceType", "combine", "(Lcom/example/tributary/tributary/AccessList$Decision;Lcom/example/tributary/tributary/AccessList$Decision;)Lcom/example/tributary/tributary/AccessList$Decision;"⟩ : MethodName)) (z := (⟨"com/example/tributary/tributary/AccessList$InheritanceType", "combine", "(Lcom/example/tributary/tributary/AccessList$Decision;Lcom/example/tributary/tributary/AccessList$Decision;)Lcom/example/tributary/tributary/AccessList$Decision;"⟩ : MethodName)) hown (mvT hZ (hw _ (List.mem_of_getElem? (i := 22) rfl))) (mvT hZ (hw _ (List.mem_of_getElem? (i := 23) rfl))) (notFace_of_selects (args := #[]) (mvT hZ (hw _ (List.mem_of_getElem? (i := 25) rfl)))) (mvT hZ (hw _ (List.mem_of_getElem? (i := 25) rfl))) (mvT hZ (hw _ (List.mem_of_getElem? (i := 24) rfl))) (by decide) (backOf (W := 0) (rm1_w_AND_BOTH_PERMIT_w_DENY_w_DENY l Z a0 hw [] w_AND_BOTH_PERMIT w_DENY w_PERMIT h0 n0 Z0 F_ordinal_w_AND_BOTH_PERMIT E_w_AND_BOTH_PERMIT S_PERMIT n_w_DENY_w_PERMIT S_DENY) hZ (hw _ (List.mem_of_getElem? (i := 26) rfl)) (hw _ (List.mem_of_getElem? (i := 4) rfl)) (by decide) (by decide)) q1a q1c (g := (mkF m 220 #[.val (.int p1), .val (.int p2), .val (.int p3), .val (.int 2), .val (.int 1), .val (.int 1), .val (.ref b1), .val (.ref b8), .val (.ref b15), .unset] [(.ref w_DENY), (.ref w_DENY), (.ref w_AND_BOTH_PERMIT)])) rfl (by rw [hml]; rfl) (Steps.refl _) (argsL := [(.ref w_DENY), (.ref w_DENY)]) (rest := []) (lenOf pd__Lcom_example_tributary_tributary_AccessList_Decision_Lcom_example_tributary_tributary_AccessList_Decision__Lcom_example_tributary_tributary_AccessList_Decision_ rfl) rfl (by show 2 * 0 + _ ≤ _; exact Nat.le_of_eq rfl) (hb hby at_220) (fun _ _ => ⟨rfl, e0, (by decide : 3 + 0 ≤ _), (by decide : 33 + 0 ≤ _)⟩)
  dsimp only [Pt.U, Pt.locs, Pt.cells, Pt.slots] at X1 l1 y1 z1 st1 hQ1
  subst l1 y1 z1
  obtain ⟨rfl, N1q, e1⟩ := hQ1
  have N1 := Fr.app N0 N1q
  refine ⟨T1, _, #[.val (.int p1), .val (.int p2), .val (.int p3), .val (.int 2), .val (.int 1), .val (.int 1), .val (.ref b1), .val (.ref b8), .val (.ref b15), .val (.ref w_DENY)], X1, N1, fun target kt => ?_⟩
  show Steps p.tables e below (T0.setTop (mkF m 206 #[.val (.int p1), .val (.int p2), .val (.int p3), .val (.int 2), .val (.int 1), .val (.int 1), .val (.ref b1), .val (.ref b8), .val (.ref b15), .unset] [])) _
  refine XS.aload X0.here hx rfl (hb hby at_206) rfl rfl ?_
  show Steps p.tables e below (T0.setTop (mkF m 208 #[.val (.int p1), .val (.int p2), .val (.int p3), .val (.int 2), .val (.int 1), .val (.int 1), .val (.ref b1), .val (.ref b8), .val (.ref b15), .unset] [(.ref b1)])) _
  refine XS.iloadN X0.here hx rfl (hb hby at_208) rfl ?_
  show Steps p.tables e below (T0.setTop (mkF m 209 #[.val (.int p1), .val (.int p2), .val (.int p3), .val (.int 2), .val (.int 1), .val (.int 1), .val (.ref b1), .val (.ref b8), .val (.ref b15), .unset] [(.int 2), (.ref b1)])) _
  refine own_ldR X0 hx hZ e0 V_b1 (j := (2 : Int32)) ⟨by decide, by decide⟩ rfl (g := (mkF m 209 #[.val (.int p1), .val (.int p2), .val (.int p3), .val (.int 2), .val (.int 1), .val (.int 1), .val (.ref b1), .val (.ref b8), .val (.ref b15), .unset] [(.int 2), (.ref b1)])) rfl rfl (hb hby at_209) _ ?_
  show Steps p.tables e below (T0.setTop (mkF m 210 #[.val (.int p1), .val (.int p2), .val (.int p3), .val (.int 2), .val (.int 1), .val (.int 1), .val (.ref b1), .val (.ref b8), .val (.ref b15), .unset] [(.ref w_AND_BOTH_PERMIT)])) _
  refine XS.aload X0.here hx rfl (hb hby at_210) rfl rfl ?_
  show Steps p.tables e below (T0.setTop (mkF m 212 #[.val (.int p1), .val (.int p2), .val (.int p3), .val (.int 2), .val (.int 1), .val (.int 1), .val (.ref b1), .val (.ref b8), .val (.ref b15), .unset] [(.ref b8), (.ref w_AND_BOTH_PERMIT)])) _
  refine XS.iload X0.here hx rfl (hb hby at_212) rfl ?_
  show Steps p.tables e below (T0.setTop (mkF m 214 #[.val (.int p1), .val (.int p2), .val (.int p3), .val (.int 2), .val (.int 1), .val (.int 1), .val (.ref b1), .val (.ref b8), .val (.ref b15), .unset] [(.int 1), (.ref b8), (.ref w_AND_BOTH_PERMIT)])) _
  refine own_ldR X0 hx hZ e0 V_b8 (j := (1 : Int32)) ⟨by decide, by decide⟩ rfl (g := (mkF m 214 #[.val (.int p1), .val (.int p2), .val (.int p3), .val (.int 2), .val (.int 1), .val (.int 1), .val (.ref b1), .val (.ref b8), .val (.ref b15), .unset] [(.int 1), (.ref b8), (.ref w_AND_BOTH_PERMIT)])) rfl rfl (hb hby at_214) _ ?_
  show Steps p.tables e below (T0.setTop (mkF m 215 #[.val (.int p1), .val (.int p2), .val (.int p3), .val (.int 2), .val (.int 1), .val (.int 1), .val (.ref b1), .val (.ref b8), .val (.ref b15), .unset] [(.ref w_DENY), (.ref w_AND_BOTH_PERMIT)])) _
  refine XS.aload X0.here hx rfl (hb hby at_215) rfl rfl ?_
  show Steps p.tables e below (T0.setTop (mkF m 217 #[.val (.int p1), .val (.int p2), .val (.int p3), .val (.int 2), .val (.int 1), .val (.int 1), .val (.ref b1), .val (.ref b8), .val (.ref b15), .unset] [(.ref b8), (.ref w_DENY), (.ref w_AND_BOTH_PERMIT)])) _
  refine XS.iload X0.here hx rfl (hb hby at_217) rfl ?_
  show Steps p.tables e below (T0.setTop (mkF m 219 #[.val (.int p1), .val (.int p2), .val (.int p3), .val (.int 2), .val (.int 1), .val (.int 1), .val (.ref b1), .val (.ref b8), .val (.ref b15), .unset] [(.int 1), (.ref b8), (.ref w_DENY), (.ref w_AND_BOTH_PERMIT)])) _
  refine own_ldR X0 hx hZ e0 V_b8 (j := (1 : Int32)) ⟨by decide, by decide⟩ rfl (g := (mkF m 219 #[.val (.int p1), .val (.int p2), .val (.int p3), .val (.int 2), .val (.int 1), .val (.int 1), .val (.ref b1), .val (.ref b8), .val (.ref b15), .unset] [(.int 1), (.ref b8), (.ref w_DENY), (.ref w_AND_BOTH_PERMIT)])) rfl rfl (hb hby at_219) _ ?_
  show Steps p.tables e below (T0.setTop (mkF m 220 #[.val (.int p1), .val (.int p2), .val (.int p3), .val (.int 2), .val (.int 1), .val (.int 1), .val (.ref b1), .val (.ref b8), .val (.ref b15), .unset] [(.ref w_DENY), (.ref w_DENY), (.ref w_AND_BOTH_PERMIT)])) _
  refine st1.trans ?_
  show Steps p.tables e below (T1.setTop (mkF m 223 #[.val (.int p1), .val (.int p2), .val (.int p3), .val (.int 2), .val (.int 1), .val (.int 1), .val (.ref b1), .val (.ref b8), .val (.ref b15), .unset] [(.ref w_DENY)])) _
  refine XS.astore X1.here hx rfl (hb hby at_223) rfl rfl (l' := #[.val (.int p1), .val (.int p2), .val (.int p3), .val (.int 2), .val (.int 1), .val (.int 1), .val (.ref b1), .val (.ref b8), .val (.ref b15), .val (.ref w_DENY)]) rfl ?_
  show Steps p.tables e below (T1.setTop (mkF m 225 #[.val (.int p1), .val (.int p2), .val (.int p3), .val (.int 2), .val (.int 1), .val (.int 1), .val (.ref b1), .val (.ref b8), .val (.ref b15), .val (.ref w_DENY)] [])) _
  refine XS.aload X1.here hx rfl (hb hby at_225) rfl rfl ?_
  show Steps p.tables e below (T1.setTop (mkF m 227 #[.val (.int p1), .val (.int p2), .val (.int p3), .val (.int 2), .val (.int 1), .val (.int 1), .val (.ref b1), .val (.ref b8), .val (.ref b15), .val (.ref w_DENY)] [(.ref w_DENY)])) _
  refine XS.aload X1.here hx rfl (hb hby at_227) rfl rfl ?_
  show Steps p.tables e below (T1.setTop (mkF m 229 #[.val (.int p1), .val (.int p2), .val (.int p3), .val (.int 2), .val (.int 1), .val (.int 1), .val (.ref b1), .val (.ref b8), .val (.ref b15), .val (.ref w_DENY)] [(.ref b8), (.ref w_DENY)])) _
  refine XS.aload X1.here hx rfl (hb hby at_229) rfl rfl ?_
  show Steps p.tables e below (T1.setTop (mkF m 231 #[.val (.int p1), .val (.int p2), .val (.int p3), .val (.int 2), .val (.int 1), .val (.int 1), .val (.ref b1), .val (.ref b8), .val (.ref b15), .val (.ref w_DENY)] [(.ref b15), (.ref b8), (.ref w_DENY)])) _
  refine XS.iloadN X1.here hx rfl (hb hby at_231) rfl ?_
  show Steps p.tables e below (T1.setTop (mkF m 232 #[.val (.int p1), .val (.int p2), .val (.int p3), .val (.int 2), .val (.int 1), .val (.int 1), .val (.ref b1), .val (.ref b8), .val (.ref b15), .val (.ref w_DENY)] [(.int 2), (.ref b15), (.ref b8), (.ref w_DENY)])) _
  refine XS.bipush X1.here hx rfl (hb hby at_232) ?_
  show Steps p.tables e below (T1.setTop (mkF m 234 #[.val (.int p1), .val (.int p2), .val (.int p3), .val (.int 2), .val (.int 1), .val (.int 1), .val (.ref b1), .val (.ref b8), .val (.ref b15), .val (.ref w_DENY)] [(.int 9), (.int 2), (.ref b15), (.ref b8), (.ref w_DENY)])) _
  refine XS.imul X1.here hx rfl (hb hby at_234) rfl ?_
  show Steps p.tables e below (T1.setTop (mkF m 235 #[.val (.int p1), .val (.int p2), .val (.int p3), .val (.int 2), .val (.int 1), .val (.int 1), .val (.ref b1), .val (.ref b8), .val (.ref b15), .val (.ref w_DENY)] [(.int ((2 : Int32) * (9 : Int32))), (.ref b15), (.ref b8), (.ref w_DENY)])) _
  rw [(by decide : ((2 : Int32) * (9 : Int32)) = (18 : Int32))]
  show Steps p.tables e below (T1.setTop (mkF m 235 #[.val (.int p1), .val (.int p2), .val (.int p3), .val (.int 2), .val (.int 1), .val (.int 1), .val (.ref b1), .val (.ref b8), .val (.ref b15), .val (.ref w_DENY)] [(.int 18), (.ref b15), (.ref b8), (.ref w_DENY)])) _
  refine XS.iload X1.here hx rfl (hb hby at_235) rfl ?_
  show Steps p.tables e below (T1.setTop (mkF m 237 #[.val (.int p1), .val (.int p2), .val (.int p3), .val (.int 2), .val (.int 1), .val (.int 1), .val (.ref b1), .val (.ref b8), .val (.ref b15), .val (.ref w_DENY)] [(.int 1), (.int 18), (.ref b15), (.ref b8), (.ref w_DENY)])) _
  refine XS.iconst X1.here hx rfl (hb hby at_237) ?_
  show Steps p.tables e below (T1.setTop (mkF m 238 #[.val (.int p1), .val (.int p2), .val (.int p3), .val (.int 2), .val (.int 1), .val (.int 1), .val (.ref b1), .val (.ref b8), .val (.ref b15), .val (.ref w_DENY)] [(.int 3), (.int 1), (.int 18), (.ref b15), (.ref b8), (.ref w_DENY)])) _
  refine XS.imul X1.here hx rfl (hb hby at_238) rfl ?_
  show Steps p.tables e below (T1.setTop (mkF m 239 #[.val (.int p1), .val (.int p2), .val (.int p3), .val (.int 2), .val (.int 1), .val (.int 1), .val (.ref b1), .val (.ref b8), .val (.ref b15), .val (.ref w_DENY)] [(.int ((1 : Int32) * (3 : Int32))), (.int 18), (.ref b15), (.ref b8), (.ref w_DENY)])) _
  rw [(by decide : ((1 : Int32) * (3 : Int32)) = (3 : Int32))]
  show Steps p.tables e below (T1.setTop (mkF m 239 #[.val (.int p1), .val (.int p2), .val (.int p3), .val (.int 2), .val (.int 1), .val (.int 1), .val (.ref b1), .val (.ref b8), .val (.ref b15), .val (.ref w_DENY)] [(.int 3), (.int 18), (.ref b15), (.ref b8), (.ref w_DENY)])) _
  refine XS.iadd X1.here hx rfl (hb hby at_239) rfl ?_
  show Steps p.tables e below (T1.setTop (mkF m 240 #[.val (.int p1), .val (.int p2), .val (.int p3), .val (.int 2), .val (.int 1), .val (.int 1), .val (.ref b1), .val (.ref b8), .val (.ref b15), .val (.ref w_DENY)] [(.int ((18 : Int32) + (3 : Int32))), (.ref b15), (.ref b8), (.ref w_DENY)])) _
  rw [(by decide : ((18 : Int32) + (3 : Int32)) = (21 : Int32))]
  show Steps p.tables e below (T1.setTop (mkF m 240 #[.val (.int p1), .val (.int p2), .val (.int p3), .val (.int 2), .val (.int 1), .val (.int 1), .val (.ref b1), .val (.ref b8), .val (.ref b15), .val (.ref w_DENY)] [(.int 21), (.ref b15), (.ref b8), (.ref w_DENY)])) _
  refine XS.iload X1.here hx rfl (hb hby at_240) rfl ?_
  show Steps p.tables e below (T1.setTop (mkF m 242 #[.val (.int p1), .val (.int p2), .val (.int p3), .val (.int 2), .val (.int 1), .val (.int 1), .val (.ref b1), .val (.ref b8), .val (.ref b15), .val (.ref w_DENY)] [(.int 1), (.int 21), (.ref b15), (.ref b8), (.ref w_DENY)])) _
  refine XS.iadd X1.here hx rfl (hb hby at_242) rfl ?_
  show Steps p.tables e below (T1.setTop (mkF m 243 #[.val (.int p1), .val (.int p2), .val (.int p3), .val (.int 2), .val (.int 1), .val (.int 1), .val (.ref b1), .val (.ref b8), .val (.ref b15), .val (.ref w_DENY)] [(.int ((21 : Int32) + (1 : Int32))), (.ref b15), (.ref b8), (.ref w_DENY)])) _
  rw [(by decide : ((21 : Int32) + (1 : Int32)) = (22 : Int32))]
  show Steps p.tables e below (T1.setTop (mkF m 243 #[.val (.int p1), .val (.int p2), .val (.int p3), .val (.int 2), .val (.int 1), .val (.int 1), .val (.ref b1), .val (.ref b8), .val (.ref b15), .val (.ref w_DENY)] [(.int 22), (.ref b15), (.ref b8), (.ref w_DENY)])) _
  refine own_ldI X1 hx hZ e1 V_b15 (j := (22 : Int32)) ⟨by decide, by decide⟩ rfl (g := (mkF m 243 #[.val (.int p1), .val (.int p2), .val (.int p3), .val (.int 2), .val (.int 1), .val (.int 1), .val (.ref b1), .val (.ref b8), .val (.ref b15), .val (.ref w_DENY)] [(.int 22), (.ref b15), (.ref b8), (.ref w_DENY)])) rfl rfl (hb hby at_243) _ ?_
  show Steps p.tables e below (T1.setTop (mkF m 244 #[.val (.int p1), .val (.int p2), .val (.int p3), .val (.int 2), .val (.int 1), .val (.int 1), .val (.ref b1), .val (.ref b8), .val (.ref b15), .val (.ref w_DENY)] [(.int 1), (.ref b8), (.ref w_DENY)])) _
  refine own_ldR X1 hx hZ e1 V_b8 (j := (1 : Int32)) ⟨by decide, by decide⟩ rfl (g := (mkF m 244 #[.val (.int p1), .val (.int p2), .val (.int p3), .val (.int 2), .val (.int 1), .val (.int 1), .val (.ref b1), .val (.ref b8), .val (.ref b15), .val (.ref w_DENY)] [(.int 1), (.ref b8), (.ref w_DENY)])) rfl rfl (hb hby at_244) _ ?_
  show Steps p.tables e below (T1.setTop (mkF m 245 #[.val (.int p1), .val (.int p2), .val (.int p3), .val (.int 2), .val (.int 1), .val (.int 1), .val (.ref b1), .val (.ref b8), .val (.ref b15), .val (.ref w_DENY)] [(.ref w_DENY), (.ref w_DENY)])) _
  refine Jvm.RoadKit.acmp (g := (mkF m 245 #[.val (.int p1), .val (.int p2), .val (.int p3), .val (.int 2), .val (.int 1), .val (.int 1), .val (.ref b1), .val (.ref b8), .val (.ref b15), .val (.ref w_DENY)] [(.ref w_DENY), (.ref w_DENY)])) X1 hx rfl rfl rfl (pc0 := 245) (pc' := 248) (same := true) rfl (hb hby at_245) rfl (decide_eq_true rfl) (by decide) (by decide) ?_
  show Steps p.tables e below (T1.setTop (mkF m 248 #[.val (.int p1), .val (.int p2), .val (.int p3), .val (.int 2), .val (.int 1), .val (.int 1), .val (.ref b1), .val (.ref b8), .val (.ref b15), .val (.ref w_DENY)] [])) _
  refine XS.iconst X1.here hx rfl (hb hby at_248) ?_
  show Steps p.tables e below (T1.setTop (mkF m 249 #[.val (.int p1), .val (.int p2), .val (.int p3), .val (.int 2), .val (.int 1), .val (.int 1), .val (.ref b1), .val (.ref b8), .val (.ref b15), .val (.ref w_DENY)] [(.int 1)])) _
  refine XS.goto X1.here hx rfl (pc0 := 249) (pc' := 253) rfl (hb hby at_249) (by decide) (by decide) ?_
  show Steps p.tables e below (T1.setTop (mkF m 253 #[.val (.int p1), .val (.int p2), .val (.int p3), .val (.int 2), .val (.int 1), .val (.int 1), .val (.ref b1), .val (.ref b8), .val (.ref b15), .val (.ref w_DENY)] [(.int 1)])) _
  exact kt
def Q1_w_AND_BOTH_PERMIT_w_DENY_w_INDETERMINATE (Z : State) (w_AND_BOTH_PERMIT : Addr) (w_DENY : Addr) (w_INDETERMINATE : Addr) (w_PERMIT : Addr) (h0 : Heap) (n0 : Nat) (v : Option Value) (h : Heap) (L : List Loc) : Prop := v = some (.ref w_DENY) ∧ Fr n0 L ∧ h = h0
set_option maxRecDepth 65536 in
set_option maxHeartbeats 40000000 in
theorem rm1_w_AND_BOTH_PERMIT_w_DENY_w_INDETERMINATE (l : Launch) (Z : State) (a0 : Array Value) (hw : ∀ d ∈ tables_1, d.before a0 Z = true) (ws : List Jvm.Cond) (w_AND_BOTH_PERMIT : Addr) (w_DENY : Addr) (w_INDETERMINATE : Addr) (w_PERMIT : Addr) (h0 : Heap) (n0 : Nat) (Z0 : n0 ≤ h0.size) (F_ordinal_w_AND_BOTH_PERMIT : Fld Z h0 w_AND_BOTH_PERMIT "java/lang/Enum" "ordinal" "I" (.int 2)) (E_w_AND_BOTH_PERMIT : Exa Z h0 w_AND_BOTH_PERMIT "com/example/tributary/tributary/AccessList$InheritanceType") (S_PERMIT : Sta Z h0 "com/example/tributary/tributary/AccessList$Decision" "PERMIT" "Lcom/example/tributary/tributary/AccessList$Decision;" (.ref w_PERMIT)) (n_w_DENY_w_PERMIT : ¬ (w_DENY = w_PERMIT)) (S_DENY : Sta Z h0 "com/example/tributary/tributary/AccessList$Decision" "DENY" "Lcom/example/tributary/tributary/AccessList$Decision;" (.ref w_DENY)) :
    MetFree l (⟨"com/example/tributary/tributary/AccessList$InheritanceType", "combine", "(Lcom/example/tributary/tributary/AccessList$Decision;Lcom/example/tributary/tributary/AccessList$Decision;)Lcom/example/tributary/tributary/AccessList$Decision;"⟩ : MethodName) (head1 (Jvm.Cond.code (⟨"com/example/tributary/tributary/AccessList$InheritanceType", "combine", "(Lcom/example/tributary/tributary/AccessList$Decision;Lcom/example/tributary/tributary/AccessList$Decision;)Lcom/example/tributary/tributary/AccessList$Decision;"⟩ : MethodName) prog_6_method_4_code 3 (some (.object "com/example/tributary/tributary/AccessList$Decision")) :: ws) ({ frames := 1, cells := 0, slots := 0, locals := 12 } : Room)) (fun a U => a = #[(.ref w_AND_BOTH_PERMIT), (.ref w_DENY), (.ref w_INDETERMINATE)] ∧ Z.Warmed39 U.vm ∧ U.heap = h0) (fun _ _ _ _ _ => True) (fun _ U o U' => ∃ v L, o = .returned v ∧ Q1_w_AND_BOTH_PERMIT_w_DENY_w_INDETERMINATE Z w_AND_BOTH_PERMIT w_DENY w_INDETERMINATE w_PERMIT h0 n0 v U'.heap L ∧ FrameEnd U o U' L ({ frames := 1, cells := 0, slots := 0, locals := 12 } : Room).cells ({ frames := 1, cells := 0, slots := 0, locals := 12 } : Room).slots) := by
  refine MetFree.of_bodySF (plainFor_of_name pn_1) hisR ?_
  intro p e s m args below meth c s₁ Bd hml0 hP hK
  obtain ⟨rfl, hZ, hh⟩ := hP
  have hx := Bd.exec
  have hby := Bd.bytes
  have hml : c.maxLocals = 3 := hml0
  have hown : s.vm.findClass "com/example/tributary/tributary/AccessList$InheritanceType" = some m.cls := findClass_of_methodNamed Bd.named
  have hnm := (name_of_methodNamed Bd.named Bd.method).1
  have X0 : Stand p l e ({ frames := 1, cells := 0, slots := 0, locals := 12 } : Room) s m #[(.ref w_AND_BOTH_PERMIT), (.ref w_DENY), (.ref w_INDETERMINATE)] below meth c s₁ [] 0 0 := Stand.of_body Bd
  have e0 : s₁.heap = h0 := by rw [← hh, Bd.state]; rfl
  have N0 := Fr.nil n0
  have pre0 : ∀ t, Steps p.tables e below (s₁.setTop (mkF m 0 #[.val (.ref w_AND_BOTH_PERMIT), .val (.ref w_DENY), .val (.ref w_INDETERMINATE)] [])) t → Steps p.tables e below (s₁.setTop (entryFrame m #[(.ref w_AND_BOTH_PERMIT), (.ref w_DENY), (.ref w_INDETERMINATE)] 3)) t := fun t k => castTop (by first | (simp [entryFrame, mkF, argsToLocals, Value.category]; done) | rfl) k
  obtain ⟨cq1, kq1, q1a, q1b, q1c⟩ := isOf hZ e0 E_w_AND_BOTH_PERMIT
  obtain ⟨_, _, ⟨T1, L1, k1, n1⟩, -, X1, ⟨Lc1, hQ1, l1, y1, z1⟩, st1⟩ := X0.virtualBackUp hx (x := (⟨"com/example/tributary/tributary/AccessList$InheritanceType", "ordinal", "()I"⟩ : MethodName)) (y := (⟨"java/lang/Enum", "ordinal", "()I"⟩ : MethodName)) (owner := "java/lang/Enum") hown (mvT hZ (hw _ (List.mem_of_getElem? (i := 27) rfl))) (mvT hZ (hw _ (List.mem_of_getElem? (i := 28) rfl))) (mvT hZ (hw _ (List.mem_of_getElem? (i := 29) rfl))) (by decide) (mvT hZ (hw _ (List.mem_of_getElem? (i := 31) rfl))) (mvT hZ (hw _ (List.mem_of_getElem? (i := 30) rfl))) (backOf (W := 0) (rm2_w_AND_BOTH_PERMIT l Z a0 hw [] w_AND_BOTH_PERMIT h0 n0 Z0 F_ordinal_w_AND_BOTH_PERMIT) hZ (hw _ (List.mem_of_getElem? (i := 33) rfl)) (hw _ (List.mem_of_getElem? (i := 32) rfl)) (by decide) (by decide)) q1a q1c (g := (mkF m 1 #[.val (.ref w_AND_BOTH_PERMIT), .val (.ref w_DENY), .val (.ref w_INDETERMINATE)] [(.ref w_AND_BOTH_PERMIT)])) rfl (by rw [hml]; rfl) (Steps.refl _) (argsL := []) (rest := []) (lenOf pd___I rfl) rfl (by show 2 * 0 + _ ≤ _; exact Nat.le_of_eq rfl) (hb hby d1_1) (fun _ _ => ⟨rfl, e0, (by decide : 0 + 0 ≤ _), (by decide : 0 + 0 ≤ _)⟩)
  dsimp only [Pt.U, Pt.locs, Pt.cells, Pt.slots] at X1 l1 y1 z1 st1 hQ1
  subst l1 y1 z1
  obtain ⟨rfl, N1q, e1⟩ := hQ1
  have N1 := Fr.app N0 N1q
  obtain ⟨T2, X2, e2, st2⟩ := getS2 X1 hx hZ hown (host := "") (Or.inl (hw _ (List.mem_of_getElem? (i := 37) rfl))) Via.refl e1 S_PERMIT (g := (mkF m 77 #[.val (.ref w_AND_BOTH_PERMIT), .val (.ref w_DENY), .val (.ref w_INDETERMINATE)] [(.ref w_DENY)])) rfl (hb hby d1_77)
  obtain ⟨T3, X3, e3, st3⟩ := getS2 X2 hx hZ hown (host := "") (Or.inl (hw _ (List.mem_of_getElem? (i := 38) rfl))) Via.refl e2 S_DENY (g := (mkF m 96 #[.val (.ref w_AND_BOTH_PERMIT), .val (.ref w_DENY), .val (.ref w_INDETERMINATE)] [])) rfl (hb hby d1_96)
  obtain ⟨fs, hr, hrun, hended, hW, hsame⟩ := X3.leave (v := some (.ref w_DENY)) (fun h => by rw [Bd.returns] at h; cases h)
  refine ⟨_, _, pre0 _ ?_, hrun, hended, _, _, rfl, ?_, ⟨_, rfl⟩, hW, hsame.mono (by decide) (by decide)⟩
  · show Steps p.tables e below (s₁.setTop (mkF m 0 #[.val (.ref w_AND_BOTH_PERMIT), .val (.ref w_DENY), .val (.ref w_INDETERMINATE)] [])) _
    refine XS.aloadN X0.here hx rfl (hb hby d1_0) rfl rfl ?_
    show Steps p.tables e below (s₁.setTop (mkF m 1 #[.val (.ref w_AND_BOTH_PERMIT), .val (.ref w_DENY), .val (.ref w_INDETERMINATE)] [(.ref w_AND_BOTH_PERMIT)])) _
    refine st1.trans ?_
    show Steps p.tables e below (T1.setTop (mkF m 4 #[.val (.ref w_AND_BOTH_PERMIT), .val (.ref w_DENY), .val (.ref w_INDETERMINATE)] [(.int 2)])) _
    refine XS.tswIn X1.here hx rfl (pc0 := 4) (pc' := 76) rfl (hb hby d1_4) rfl (by decide) (o := 72) (by decide) (by decide) (by decide) ?_
    show Steps p.tables e below (T1.setTop (mkF m 76 #[.val (.ref w_AND_BOTH_PERMIT), .val (.ref w_DENY), .val (.ref w_INDETERMINATE)] [])) _
    refine XS.aloadN X1.here hx rfl (hb hby d1_76) rfl rfl ?_
    show Steps p.tables e below (T1.setTop (mkF m 77 #[.val (.ref w_AND_BOTH_PERMIT), .val (.ref w_DENY), .val (.ref w_INDETERMINATE)] [(.ref w_DENY)])) _
    refine st2 _ ?_
    show Steps p.tables e below (T2.setTop (mkF m 80 #[.val (.ref w_AND_BOTH_PERMIT), .val (.ref w_DENY), .val (.ref w_INDETERMINATE)] [(.ref w_PERMIT), (.ref w_DENY)])) _
    refine Jvm.RoadKit.acmp (g := (mkF m 80 #[.val (.ref w_AND_BOTH_PERMIT), .val (.ref w_DENY), .val (.ref w_INDETERMINATE)] [(.ref w_PERMIT), (.ref w_DENY)])) X2 hx rfl rfl rfl (pc0 := 80) (pc' := 96) (same := false) rfl (hb hby d1_80) rfl (decide_eq_false fun q => n_w_DENY_w_PERMIT (Value.ref.inj q)) (by decide) (by decide) ?_
    show Steps p.tables e below (T2.setTop (mkF m 96 #[.val (.ref w_AND_BOTH_PERMIT), .val (.ref w_DENY), .val (.ref w_INDETERMINATE)] [])) _
    refine st3 _ ?_
    show Steps p.tables e below (T3.setTop (mkF m 99 #[.val (.ref w_AND_BOTH_PERMIT), .val (.ref w_DENY), .val (.ref w_INDETERMINATE)] [(.ref w_DENY)])) _
    refine XS.goto X3.here hx rfl (pc0 := 99) (pc' := 112) rfl (hb hby d1_99) (by decide) (by decide) ?_
    show Steps p.tables e below (T3.setTop (mkF m 112 #[.val (.ref w_AND_BOTH_PERMIT), .val (.ref w_DENY), .val (.ref w_INDETERMINATE)] [(.ref w_DENY)])) _
    jvm_step X3.here [X3.here.top, hx, (hb hby d1_112), X3.method', Bd.returns, Value.isRef, FieldType.isReference]
    first | (intro acts; rw [hr _ acts rfl rfl rfl]) | rw [hr _ _ rfl rfl rfl]
    exact Steps.refl _
  · show Q1_w_AND_BOTH_PERMIT_w_DENY_w_INDETERMINATE Z w_AND_BOTH_PERMIT w_DENY w_INDETERMINATE w_PERMIT h0 n0 _ T3.heap _
    rw [e3]
    exact ⟨rfl, N1, rfl⟩
set_option maxRecDepth 65536 in
set_option maxHeartbeats 40000000 in
theorem pc0_k212 {p : Program} {l : Launch} {e : Env} {s : State} {m : MethodId} {args : Array Value} {below : List Frame} {meth : Method} {c : Code} {T0 : State} {locs : List Loc} {Z : State} {a0 : Array Value} {h0 : Heap} {n0 : Nat} (p1 : Int32) (p2 : Int32) (p3 : Int32) (b1 : Addr) (b8 : Addr) (b15 : Addr) (k1 : ClassId) (w_CHILD_OVERRIDES : Addr) (w_PARENT_OVERRIDES : Addr) (w_AND_BOTH_PERMIT : Addr) (k8 : ClassId) (w_PERMIT : Addr) (w_DENY : Addr) (w_INDETERMINATE : Addr) (k15 : ClassId)
    (X0 : Stand p l e room_1 s m args below meth c T0 locs 3 33) (hx : p.tables.exec = Jvm.exec) (hZ : Z.Warmed39 s.vm) (hw : ∀ d ∈ tables_1, d.before a0 Z = true) (hby : c.code = code) (hml : c.maxLocals = 10) (hown : s.vm.findClass "com/example/tributary/tributary/InheritanceTypeCombinePinLaw" = some m.cls) (e0 : T0.heap = h0) (Z0 : n0 ≤ h0.size) (N0 : Fr n0 locs) (V_b1 : Arv Z h0 b1 k1 (.object "com/example/tributary/tributary/AccessList$InheritanceType") (3 : Int32) [(.ref w_CHILD_OVERRIDES), (.ref w_PARENT_OVERRIDES), (.ref w_AND_BOTH_PERMIT)] .null) (V_b8 : Arv Z h0 b8 k8 (.object "com/example/tributary/tributary/AccessList$Decision") (3 : Int32) [(.ref w_PERMIT), (.ref w_DENY), (.ref w_INDETERMINATE)] .null) (F_ordinal_w_AND_BOTH_PERMIT : Fld Z h0 w_AND_BOTH_PERMIT "java/lang/Enum" "ordinal" "I" (.int 2)) (E_w_AND_BOTH_PERMIT : Exa Z h0 w_AND_BOTH_PERMIT "com/example/tributary/tributary/AccessList$InheritanceType") (S_PERMIT : Sta Z h0 "com/example/tributary/tributary/AccessList$Decision" "PERMIT" "Lcom/example/tributary/tributary/AccessList$Decision;" (.ref w_PERMIT)) (n_w_DENY_w_PERMIT : ¬ (w_DENY = w_PERMIT)) (S_DENY : Sta Z h0 "com/example/tributary/tributary/AccessList$Decision" "DENY" "Lcom/example/tributary/tributary/AccessList$Decision;" (.ref w_DENY)) (V_b15 : Arv Z h0 b15 k15 .int (27 : Int32) [(.int 0), (.int 1), (.int 0), (.int 0), (.int 1), (.int 1), (.int 0), (.int 1), (.int 2), (.int 0), (.int 0), (.int 0), (.int 1), (.int 1), (.int 1), (.int 0), (.int 1), (.int 2), (.int 0), (.int 1), (.int 1), (.int 1), (.int 1), (.int 1), (.int 1), (.int 1), (.int 1)] (.int (0 : Int32))) :
    ∃ (T' : State) (L' : List Loc) (Ls : Array Slot), Stand p l e room_1 s m args below meth c T' L' 3 33 ∧ Fr n0 L' ∧ ∀ target, Steps p.tables e below (T'.setTop (mkF m 253 Ls [(.int 1)])) target → Steps p.tables e below (T0.setTop (mkF m 206 #[.val (.int p1), .val (.int p2), .val (.int p3), .val (.int 2), .val (.int 1), .val (.int 2), .val (.ref b1), .val (.ref b8), .val (.ref b15), .unset] [])) target := by
  obtain ⟨cq1, kq1, q1a, q1b, q1c⟩ := isOf hZ e0 E_w_AND_BOTH_PERMIT
  obtain ⟨_, _, ⟨T1, L1, k1, n1⟩, -, X1, ⟨Lc1, hQ1, l1, y1, z1⟩, st1⟩ := X0.virtualBack hx (y := (⟨"com/example/tributary/tributary/AccessList$InheritanceType", "combine", "(Lcom/example/tributary/tributary/AccessList$Decision;Lcom/example/tributary/tributary/AccessList$Decision;)Lcom/example/tributary/tributary/AccessList$Decision;"⟩ : MethodName)) (z := (⟨"com/example/tributary/tributary/AccessList$InheritanceType", "combine", "(Lcom/example/tributary/tributary/AccessList$Decision;Lcom/example/tributary/tributary/AccessList$Decision;)Lcom/example/tributary/tributary/AccessList$Decision;"⟩ : MethodName)) hown (mvT hZ (hw _ (List.mem_of_getElem? (i := 22) rfl))) (mvT hZ (hw _ (List.mem_of_getElem? (i := 23) rfl))) (notFace_of_selects (args := #[]) (mvT hZ (hw _ (List.mem_of_getElem? (i := 25) rfl)))) (mvT hZ (hw _ (List.mem_of_getElem? (i := 25) rfl))) (mvT hZ (hw _ (List.mem_of_getElem? (i := 24) rfl))) (by decide) (backOf (W := 0) (rm1_w_AND_BOTH_PERMIT_w_DENY_w_INDETERMINATE l Z a0 hw [] w_AND_BOTH_PERMIT w_DENY w_INDETERMINATE w_PERMIT h0 n0 Z0 F_ordinal_w_AND_BOTH_PERMIT E_w_AND_BOTH_PERMIT S_PERMIT n_w_DENY_w_PERMIT S_DENY) hZ (hw _ (List.mem_of_getElem? (i := 26) rfl)) (hw _ (List.mem_of_getElem? (i := 4) rfl)) (by decide) (by decide)) q1a q1c (g := (mkF m 220 #[.val (.int p1), .val (.int p2), .val (.int p3), .val (.int 2), .val (.int 1), .val (.int 2), .val (.ref b1), .val (.ref b8), .val (.ref b15), .unset] [(.ref w_INDETERMINATE), (.ref w_DENY), (.ref w_AND_BOTH_PERMIT)])) rfl (by rw [hml]; rfl) (Steps.refl _) (argsL := [(.ref w_DENY), (.ref w_INDETERMINATE)]) (rest := []) (lenOf pd__Lcom_example_tributary_tributary_AccessList_Decision_Lcom_example_tributary_tributary_AccessList_Decision__Lcom_example_tributary_tributary_AccessList_Decision_ rfl) rfl (by show 2 * 0 + _ ≤ _; exact Nat.le_of_eq rfl) (hb hby at_220) (fun _ _ => ⟨rfl, e0, (by decide : 3 + 0 ≤ _), (by decide : 33 + 0 ≤ _)⟩)
  dsimp only [Pt.U, Pt.locs, Pt.cells, Pt.slots] at X1 l1 y1 z1 st1 hQ1
  subst l1 y1 z1
  obtain ⟨rfl, N1q, e1⟩ := hQ1
  have N1 := Fr.app N0 N1q
  refine ⟨T1, _, #[.val (.int p1), .val (.int p2), .val (.int p3), .val (.int 2), .val (.int 1), .val (.int 2), .val (.ref b1), .val (.ref b8), .val (.ref b15), .val (.ref w_DENY)], X1, N1, fun target kt => ?_⟩
  show Steps p.tables e below (T0.setTop (mkF m 206 #[.val (.int p1), .val (.int p2), .val (.int p3), .val (.int 2), .val (.int 1), .val (.int 2), .val (.ref b1), .val (.ref b8), .val (.ref b15), .unset] [])) _
  refine XS.aload X0.here hx rfl (hb hby at_206) rfl rfl ?_
  show Steps p.tables e below (T0.setTop (mkF m 208 #[.val (.int p1), .val (.int p2), .val (.int p3), .val (.int 2), .val (.int 1), .val (.int 2), .val (.ref b1), .val (.ref b8), .val (.ref b15), .unset] [(.ref b1)])) _
  refine XS.iloadN X0.here hx rfl (hb hby at_208) rfl ?_
  show Steps p.tables e below (T0.setTop (mkF m 209 #[.val (.int p1), .val (.int p2), .val (.int p3), .val (.int 2), .val (.int 1), .val (.int 2), .val (.ref b1), .val (.ref b8), .val (.ref b15), .unset] [(.int 2), (.ref b1)])) _
  refine own_ldR X0 hx hZ e0 V_b1 (j := (2 : Int32)) ⟨by decide, by decide⟩ rfl (g := (mkF m 209 #[.val (.int p1), .val (.int p2), .val (.int p3), .val (.int 2), .val (.int 1), .val (.int 2), .val (.ref b1), .val (.ref b8), .val (.ref b15), .unset] [(.int 2), (.ref b1)])) rfl rfl (hb hby at_209) _ ?_
  show Steps p.tables e below (T0.setTop (mkF m 210 #[.val (.int p1), .val (.int p2), .val (.int p3), .val (.int 2), .val (.int 1), .val (.int 2), .val (.ref b1), .val (.ref b8), .val (.ref b15), .unset] [(.ref w_AND_BOTH_PERMIT)])) _
  refine XS.aload X0.here hx rfl (hb hby at_210) rfl rfl ?_
  show Steps p.tables e below (T0.setTop (mkF m 212 #[.val (.int p1), .val (.int p2), .val (.int p3), .val (.int 2), .val (.int 1), .val (.int 2), .val (.ref b1), .val (.ref b8), .val (.ref b15), .unset] [(.ref b8), (.ref w_AND_BOTH_PERMIT)])) _
  refine XS.iload X0.here hx rfl (hb hby at_212) rfl ?_
  show Steps p.tables e below (T0.setTop (mkF m 214 #[.val (.int p1), .val (.int p2), .val (.int p3), .val (.int 2), .val (.int 1), .val (.int 2), .val (.ref b1), .val (.ref b8), .val (.ref b15), .unset] [(.int 1), (.ref b8), (.ref w_AND_BOTH_PERMIT)])) _
  refine own_ldR X0 hx hZ e0 V_b8 (j := (1 : Int32)) ⟨by decide, by decide⟩ rfl (g := (mkF m 214 #[.val (.int p1), .val (.int p2), .val (.int p3), .val (.int 2), .val (.int 1), .val (.int 2), .val (.ref b1), .val (.ref b8), .val (.ref b15), .unset] [(.int 1), (.ref b8), (.ref w_AND_BOTH_PERMIT)])) rfl rfl (hb hby at_214) _ ?_
  show Steps p.tables e below (T0.setTop (mkF m 215 #[.val (.int p1), .val (.int p2), .val (.int p3), .val (.int 2), .val (.int 1), .val (.int 2), .val (.ref b1), .val (.ref b8), .val (.ref b15), .unset] [(.ref w_DENY), (.ref w_AND_BOTH_PERMIT)])) _
  refine XS.aload X0.here hx rfl (hb hby at_215) rfl rfl ?_
  show Steps p.tables e below (T0.setTop (mkF m 217 #[.val (.int p1), .val (.int p2), .val (.int p3), .val (.int 2), .val (.int 1), .val (.int 2), .val (.ref b1), .val (.ref b8), .val (.ref b15), .unset] [(.ref b8), (.ref w_DENY), (.ref w_AND_BOTH_PERMIT)])) _
  refine XS.iload X0.here hx rfl (hb hby at_217) rfl ?_
  show Steps p.tables e below (T0.setTop (mkF m 219 #[.val (.int p1), .val (.int p2), .val (.int p3), .val (.int 2), .val (.int 1), .val (.int 2), .val (.ref b1), .val (.ref b8), .val (.ref b15), .unset] [(.int 2), (.ref b8), (.ref w_DENY), (.ref w_AND_BOTH_PERMIT)])) _
  refine own_ldR X0 hx hZ e0 V_b8 (j := (2 : Int32)) ⟨by decide, by decide⟩ rfl (g := (mkF m 219 #[.val (.int p1), .val (.int p2), .val (.int p3), .val (.int 2), .val (.int 1), .val (.int 2), .val (.ref b1), .val (.ref b8), .val (.ref b15), .unset] [(.int 2), (.ref b8), (.ref w_DENY), (.ref w_AND_BOTH_PERMIT)])) rfl rfl (hb hby at_219) _ ?_
  show Steps p.tables e below (T0.setTop (mkF m 220 #[.val (.int p1), .val (.int p2), .val (.int p3), .val (.int 2), .val (.int 1), .val (.int 2), .val (.ref b1), .val (.ref b8), .val (.ref b15), .unset] [(.ref w_INDETERMINATE), (.ref w_DENY), (.ref w_AND_BOTH_PERMIT)])) _
  refine st1.trans ?_
  show Steps p.tables e below (T1.setTop (mkF m 223 #[.val (.int p1), .val (.int p2), .val (.int p3), .val (.int 2), .val (.int 1), .val (.int 2), .val (.ref b1), .val (.ref b8), .val (.ref b15), .unset] [(.ref w_DENY)])) _
  refine XS.astore X1.here hx rfl (hb hby at_223) rfl rfl (l' := #[.val (.int p1), .val (.int p2), .val (.int p3), .val (.int 2), .val (.int 1), .val (.int 2), .val (.ref b1), .val (.ref b8), .val (.ref b15), .val (.ref w_DENY)]) rfl ?_
  show Steps p.tables e below (T1.setTop (mkF m 225 #[.val (.int p1), .val (.int p2), .val (.int p3), .val (.int 2), .val (.int 1), .val (.int 2), .val (.ref b1), .val (.ref b8), .val (.ref b15), .val (.ref w_DENY)] [])) _
  refine XS.aload X1.here hx rfl (hb hby at_225) rfl rfl ?_
  show Steps p.tables e below (T1.setTop (mkF m 227 #[.val (.int p1), .val (.int p2), .val (.int p3), .val (.int 2), .val (.int 1), .val (.int 2), .val (.ref b1), .val (.ref b8), .val (.ref b15), .val (.ref w_DENY)] [(.ref w_DENY)])) _
  refine XS.aload X1.here hx rfl (hb hby at_227) rfl rfl ?_
  show Steps p.tables e below (T1.setTop (mkF m 229 #[.val (.int p1), .val (.int p2), .val (.int p3), .val (.int 2), .val (.int 1), .val (.int 2), .val (.ref b1), .val (.ref b8), .val (.ref b15), .val (.ref w_DENY)] [(.ref b8), (.ref w_DENY)])) _
  refine XS.aload X1.here hx rfl (hb hby at_229) rfl rfl ?_
  show Steps p.tables e below (T1.setTop (mkF m 231 #[.val (.int p1), .val (.int p2), .val (.int p3), .val (.int 2), .val (.int 1), .val (.int 2), .val (.ref b1), .val (.ref b8), .val (.ref b15), .val (.ref w_DENY)] [(.ref b15), (.ref b8), (.ref w_DENY)])) _
  refine XS.iloadN X1.here hx rfl (hb hby at_231) rfl ?_
  show Steps p.tables e below (T1.setTop (mkF m 232 #[.val (.int p1), .val (.int p2), .val (.int p3), .val (.int 2), .val (.int 1), .val (.int 2), .val (.ref b1), .val (.ref b8), .val (.ref b15), .val (.ref w_DENY)] [(.int 2), (.ref b15), (.ref b8), (.ref w_DENY)])) _
  refine XS.bipush X1.here hx rfl (hb hby at_232) ?_
  show Steps p.tables e below (T1.setTop (mkF m 234 #[.val (.int p1), .val (.int p2), .val (.int p3), .val (.int 2), .val (.int 1), .val (.int 2), .val (.ref b1), .val (.ref b8), .val (.ref b15), .val (.ref w_DENY)] [(.int 9), (.int 2), (.ref b15), (.ref b8), (.ref w_DENY)])) _
  refine XS.imul X1.here hx rfl (hb hby at_234) rfl ?_
  show Steps p.tables e below (T1.setTop (mkF m 235 #[.val (.int p1), .val (.int p2), .val (.int p3), .val (.int 2), .val (.int 1), .val (.int 2), .val (.ref b1), .val (.ref b8), .val (.ref b15), .val (.ref w_DENY)] [(.int ((2 : Int32) * (9 : Int32))), (.ref b15), (.ref b8), (.ref w_DENY)])) _
  rw [(by decide : ((2 : Int32) * (9 : Int32)) = (18 : Int32))]
  show Steps p.tables e below (T1.setTop (mkF m 235 #[.val (.int p1), .val (.int p2), .val (.int p3), .val (.int 2), .val (.int 1), .val (.int 2), .val (.ref b1), .val (.ref b8), .val (.ref b15), .val (.ref w_DENY)] [(.int 18), (.ref b15), (.ref b8), (.ref w_DENY)])) _
  refine XS.iload X1.here hx rfl (hb hby at_235) rfl ?_
  show Steps p.tables e below (T1.setTop (mkF m 237 #[.val (.int p1), .val (.int p2), .val (.int p3), .val (.int 2), .val (.int 1), .val (.int 2), .val (.ref b1), .val (.ref b8), .val (.ref b15), .val (.ref w_DENY)] [(.int 1), (.int 18), (.ref b15), (.ref b8), (.ref w_DENY)])) _
  refine XS.iconst X1.here hx rfl (hb hby at_237) ?_
  show Steps p.tables e below (T1.setTop (mkF m 238 #[.val (.int p1), .val (.int p2), .val (.int p3), .val (.int 2), .val (.int 1), .val (.int 2), .val (.ref b1), .val (.ref b8), .val (.ref b15), .val (.ref w_DENY)] [(.int 3), (.int 1), (.int 18), (.ref b15), (.ref b8), (.ref w_DENY)])) _
  refine XS.imul X1.here hx rfl (hb hby at_238) rfl ?_
  show Steps p.tables e below (T1.setTop (mkF m 239 #[.val (.int p1), .val (.int p2), .val (.int p3), .val (.int 2), .val (.int 1), .val (.int 2), .val (.ref b1), .val (.ref b8), .val (.ref b15), .val (.ref w_DENY)] [(.int ((1 : Int32) * (3 : Int32))), (.int 18), (.ref b15), (.ref b8), (.ref w_DENY)])) _
  rw [(by decide : ((1 : Int32) * (3 : Int32)) = (3 : Int32))]
  show Steps p.tables e below (T1.setTop (mkF m 239 #[.val (.int p1), .val (.int p2), .val (.int p3), .val (.int 2), .val (.int 1), .val (.int 2), .val (.ref b1), .val (.ref b8), .val (.ref b15), .val (.ref w_DENY)] [(.int 3), (.int 18), (.ref b15), (.ref b8), (.ref w_DENY)])) _
  refine XS.iadd X1.here hx rfl (hb hby at_239) rfl ?_
  show Steps p.tables e below (T1.setTop (mkF m 240 #[.val (.int p1), .val (.int p2), .val (.int p3), .val (.int 2), .val (.int 1), .val (.int 2), .val (.ref b1), .val (.ref b8), .val (.ref b15), .val (.ref w_DENY)] [(.int ((18 : Int32) + (3 : Int32))), (.ref b15), (.ref b8), (.ref w_DENY)])) _
  rw [(by decide : ((18 : Int32) + (3 : Int32)) = (21 : Int32))]
  show Steps p.tables e below (T1.setTop (mkF m 240 #[.val (.int p1), .val (.int p2), .val (.int p3), .val (.int 2), .val (.int 1), .val (.int 2), .val (.ref b1), .val (.ref b8), .val (.ref b15), .val (.ref w_DENY)] [(.int 21), (.ref b15), (.ref b8), (.ref w_DENY)])) _
  refine XS.iload X1.here hx rfl (hb hby at_240) rfl ?_
  show Steps p.tables e below (T1.setTop (mkF m 242 #[.val (.int p1), .val (.int p2), .val (.int p3), .val (.int 2), .val (.int 1), .val (.int 2), .val (.ref b1), .val (.ref b8), .val (.ref b15), .val (.ref w_DENY)] [(.int 2), (.int 21), (.ref b15), (.ref b8), (.ref w_DENY)])) _
  refine XS.iadd X1.here hx rfl (hb hby at_242) rfl ?_
  show Steps p.tables e below (T1.setTop (mkF m 243 #[.val (.int p1), .val (.int p2), .val (.int p3), .val (.int 2), .val (.int 1), .val (.int 2), .val (.ref b1), .val (.ref b8), .val (.ref b15), .val (.ref w_DENY)] [(.int ((21 : Int32) + (2 : Int32))), (.ref b15), (.ref b8), (.ref w_DENY)])) _
  rw [(by decide : ((21 : Int32) + (2 : Int32)) = (23 : Int32))]
  show Steps p.tables e below (T1.setTop (mkF m 243 #[.val (.int p1), .val (.int p2), .val (.int p3), .val (.int 2), .val (.int 1), .val (.int 2), .val (.ref b1), .val (.ref b8), .val (.ref b15), .val (.ref w_DENY)] [(.int 23), (.ref b15), (.ref b8), (.ref w_DENY)])) _
  refine own_ldI X1 hx hZ e1 V_b15 (j := (23 : Int32)) ⟨by decide, by decide⟩ rfl (g := (mkF m 243 #[.val (.int p1), .val (.int p2), .val (.int p3), .val (.int 2), .val (.int 1), .val (.int 2), .val (.ref b1), .val (.ref b8), .val (.ref b15), .val (.ref w_DENY)] [(.int 23), (.ref b15), (.ref b8), (.ref w_DENY)])) rfl rfl (hb hby at_243) _ ?_
  show Steps p.tables e below (T1.setTop (mkF m 244 #[.val (.int p1), .val (.int p2), .val (.int p3), .val (.int 2), .val (.int 1), .val (.int 2), .val (.ref b1), .val (.ref b8), .val (.ref b15), .val (.ref w_DENY)] [(.int 1), (.ref b8), (.ref w_DENY)])) _
  refine own_ldR X1 hx hZ e1 V_b8 (j := (1 : Int32)) ⟨by decide, by decide⟩ rfl (g := (mkF m 244 #[.val (.int p1), .val (.int p2), .val (.int p3), .val (.int 2), .val (.int 1), .val (.int 2), .val (.ref b1), .val (.ref b8), .val (.ref b15), .val (.ref w_DENY)] [(.int 1), (.ref b8), (.ref w_DENY)])) rfl rfl (hb hby at_244) _ ?_
  show Steps p.tables e below (T1.setTop (mkF m 245 #[.val (.int p1), .val (.int p2), .val (.int p3), .val (.int 2), .val (.int 1), .val (.int 2), .val (.ref b1), .val (.ref b8), .val (.ref b15), .val (.ref w_DENY)] [(.ref w_DENY), (.ref w_DENY)])) _
  refine Jvm.RoadKit.acmp (g := (mkF m 245 #[.val (.int p1), .val (.int p2), .val (.int p3), .val (.int 2), .val (.int 1), .val (.int 2), .val (.ref b1), .val (.ref b8), .val (.ref b15), .val (.ref w_DENY)] [(.ref w_DENY), (.ref w_DENY)])) X1 hx rfl rfl rfl (pc0 := 245) (pc' := 248) (same := true) rfl (hb hby at_245) rfl (decide_eq_true rfl) (by decide) (by decide) ?_
  show Steps p.tables e below (T1.setTop (mkF m 248 #[.val (.int p1), .val (.int p2), .val (.int p3), .val (.int 2), .val (.int 1), .val (.int 2), .val (.ref b1), .val (.ref b8), .val (.ref b15), .val (.ref w_DENY)] [])) _
  refine XS.iconst X1.here hx rfl (hb hby at_248) ?_
  show Steps p.tables e below (T1.setTop (mkF m 249 #[.val (.int p1), .val (.int p2), .val (.int p3), .val (.int 2), .val (.int 1), .val (.int 2), .val (.ref b1), .val (.ref b8), .val (.ref b15), .val (.ref w_DENY)] [(.int 1)])) _
  refine XS.goto X1.here hx rfl (pc0 := 249) (pc' := 253) rfl (hb hby at_249) (by decide) (by decide) ?_
  show Steps p.tables e below (T1.setTop (mkF m 253 #[.val (.int p1), .val (.int p2), .val (.int p3), .val (.int 2), .val (.int 1), .val (.int 2), .val (.ref b1), .val (.ref b8), .val (.ref b15), .val (.ref w_DENY)] [(.int 1)])) _
  exact kt
def Q1_w_AND_BOTH_PERMIT_w_INDETERMINATE_w_PERMIT (Z : State) (w_AND_BOTH_PERMIT : Addr) (w_INDETERMINATE : Addr) (w_PERMIT : Addr) (w_DENY : Addr) (h0 : Heap) (n0 : Nat) (v : Option Value) (h : Heap) (L : List Loc) : Prop := v = some (.ref w_DENY) ∧ Fr n0 L ∧ h = h0
set_option maxRecDepth 65536 in
set_option maxHeartbeats 40000000 in
theorem rm1_w_AND_BOTH_PERMIT_w_INDETERMINATE_w_PERMIT (l : Launch) (Z : State) (a0 : Array Value) (hw : ∀ d ∈ tables_1, d.before a0 Z = true) (ws : List Jvm.Cond) (w_AND_BOTH_PERMIT : Addr) (w_INDETERMINATE : Addr) (w_PERMIT : Addr) (w_DENY : Addr) (h0 : Heap) (n0 : Nat) (Z0 : n0 ≤ h0.size) (F_ordinal_w_AND_BOTH_PERMIT : Fld Z h0 w_AND_BOTH_PERMIT "java/lang/Enum" "ordinal" "I" (.int 2)) (E_w_AND_BOTH_PERMIT : Exa Z h0 w_AND_BOTH_PERMIT "com/example/tributary/tributary/AccessList$InheritanceType") (S_PERMIT : Sta Z h0 "com/example/tributary/tributary/AccessList$Decision" "PERMIT" "Lcom/example/tributary/tributary/AccessList$Decision;" (.ref w_PERMIT)) (n_w_INDETERMINATE_w_PERMIT : ¬ (w_INDETERMINATE = w_PERMIT)) (S_DENY : Sta Z h0 "com/example/tributary/tributary/AccessList$Decision" "DENY" "Lcom/example/tributary/tributary/AccessList$Decision;" (.ref w_DENY)) :
    MetFree l (⟨"com/example/tributary/tributary/AccessList$InheritanceType", "combine", "(Lcom/example/tributary/tributary/AccessList$Decision;Lcom/example/tributary/tributary/AccessList$Decision;)Lcom/example/tributary/tributary/AccessList$Decision;"⟩ : MethodName) (head1 (Jvm.Cond.code (⟨"com/example/tributary/tributary/AccessList$InheritanceType", "combine", "(Lcom/example/tributary/tributary/AccessList$Decision;Lcom/example/tributary/tributary/AccessList$Decision;)Lcom/example/tributary/tributary/AccessList$Decision;"⟩ : MethodName) prog_6_method_4_code 3 (some (.object "com/example/tributary/tributary/AccessList$Decision")) :: ws) ({ frames := 1, cells := 0, slots := 0, locals := 12 } : Room)) (fun a U => a = #[(.ref w_AND_BOTH_PERMIT), (.ref w_INDETERMINATE), (.ref w_PERMIT)] ∧ Z.Warmed39 U.vm ∧ U.heap = h0) (fun _ _ _ _ _ => True) (fun _ U o U' => ∃ v L, o = .returned v ∧ Q1_w_AND_BOTH_PERMIT_w_INDETERMINATE_w_PERMIT Z w_AND_BOTH_PERMIT w_INDETERMINATE w_PERMIT w_DENY h0 n0 v U'.heap L ∧ FrameEnd U o U' L ({ frames := 1, cells := 0, slots := 0, locals := 12 } : Room).cells ({ frames := 1, cells := 0, slots := 0, locals := 12 } : Room).slots) := by
  refine MetFree.of_bodySF (plainFor_of_name pn_1) hisR ?_
  intro p e s m args below meth c s₁ Bd hml0 hP hK
  obtain ⟨rfl, hZ, hh⟩ := hP
  have hx := Bd.exec
  have hby := Bd.bytes
  have hml : c.maxLocals = 3 := hml0
  have hown : s.vm.findClass "com/example/tributary/tributary/AccessList$InheritanceType" = some m.cls := findClass_of_methodNamed Bd.named
  have hnm := (name_of_methodNamed Bd.named Bd.method).1
  have X0 : Stand p l e ({ frames := 1, cells := 0, slots := 0, locals := 12 } : Room) s m #[(.ref w_AND_BOTH_PERMIT), (.ref w_INDETERMINATE), (.ref w_PERMIT)] below meth c s₁ [] 0 0 := Stand.of_body Bd
  have e0 : s₁.heap = h0 := by rw [← hh, Bd.state]; rfl
  have N0 := Fr.nil n0
  have pre0 : ∀ t, Steps p.tables e below (s₁.setTop (mkF m 0 #[.val (.ref w_AND_BOTH_PERMIT), .val (.ref w_INDETERMINATE), .val (.ref w_PERMIT)] [])) t → Steps p.tables e below (s₁.setTop (entryFrame m #[(.ref w_AND_BOTH_PERMIT), (.ref w_INDETERMINATE), (.ref w_PERMIT)] 3)) t := fun t k => castTop (by first | (simp [entryFrame, mkF, argsToLocals, Value.category]; done) | rfl) k
  obtain ⟨cq1, kq1, q1a, q1b, q1c⟩ := isOf hZ e0 E_w_AND_BOTH_PERMIT
  obtain ⟨_, _, ⟨T1, L1, k1, n1⟩, -, X1, ⟨Lc1, hQ1, l1, y1, z1⟩, st1⟩ := X0.virtualBackUp hx (x := (⟨"com/example/tributary/tributary/AccessList$InheritanceType", "ordinal", "()I"⟩ : MethodName)) (y := (⟨"java/lang/Enum", "ordinal", "()I"⟩ : MethodName)) (owner := "java/lang/Enum") hown (mvT hZ (hw _ (List.mem_of_getElem? (i := 27) rfl))) (mvT hZ (hw _ (List.mem_of_getElem? (i := 28) rfl))) (mvT hZ (hw _ (List.mem_of_getElem? (i := 29) rfl))) (by decide) (mvT hZ (hw _ (List.mem_of_getElem? (i := 31) rfl))) (mvT hZ (hw _ (List.mem_of_getElem? (i := 30) rfl))) (backOf (W := 0) (rm2_w_AND_BOTH_PERMIT l Z a0 hw [] w_AND_BOTH_PERMIT h0 n0 Z0 F_ordinal_w_AND_BOTH_PERMIT) hZ (hw _ (List.mem_of_getElem? (i := 33) rfl)) (hw _ (List.mem_of_getElem? (i := 32) rfl)) (by decide) (by decide)) q1a q1c (g := (mkF m 1 #[.val (.ref w_AND_BOTH_PERMIT), .val (.ref w_INDETERMINATE), .val (.ref w_PERMIT)] [(.ref w_AND_BOTH_PERMIT)])) rfl (by rw [hml]; rfl) (Steps.refl _) (argsL := []) (rest := []) (lenOf pd___I rfl) rfl (by show 2 * 0 + _ ≤ _; exact Nat.le_of_eq rfl) (hb hby d1_1) (fun _ _ => ⟨rfl, e0, (by decide : 0 + 0 ≤ _), (by decide : 0 + 0 ≤ _)⟩)
  dsimp only [Pt.U, Pt.locs, Pt.cells, Pt.slots] at X1 l1 y1 z1 st1 hQ1
  subst l1 y1 z1
  obtain ⟨rfl, N1q, e1⟩ := hQ1
  have N1 := Fr.app N0 N1q
  obtain ⟨T2, X2, e2, st2⟩ := getS2 X1 hx hZ hown (host := "") (Or.inl (hw _ (List.mem_of_getElem? (i := 37) rfl))) Via.refl e1 S_PERMIT (g := (mkF m 77 #[.val (.ref w_AND_BOTH_PERMIT), .val (.ref w_INDETERMINATE), .val (.ref w_PERMIT)] [(.ref w_INDETERMINATE)])) rfl (hb hby d1_77)
  obtain ⟨T3, X3, e3, st3⟩ := getS2 X2 hx hZ hown (host := "") (Or.inl (hw _ (List.mem_of_getElem? (i := 38) rfl))) Via.refl e2 S_DENY (g := (mkF m 96 #[.val (.ref w_AND_BOTH_PERMIT), .val (.ref w_INDETERMINATE), .val (.ref w_PERMIT)] [])) rfl (hb hby d1_96)
  obtain ⟨fs, hr, hrun, hended, hW, hsame⟩ := X3.leave (v := some (.ref w_DENY)) (fun h => by rw [Bd.returns] at h; cases h)
  refine ⟨_, _, pre0 _ ?_, hrun, hended, _, _, rfl, ?_, ⟨_, rfl⟩, hW, hsame.mono (by decide) (by decide)⟩
  · show Steps p.tables e below (s₁.setTop (mkF m 0 #[.val (.ref w_AND_BOTH_PERMIT), .val (.ref w_INDETERMINATE), .val (.ref w_PERMIT)] [])) _
    refine XS.aloadN X0.here hx rfl (hb hby d1_0) rfl rfl ?_
    show Steps p.tables e below (s₁.setTop (mkF m 1 #[.val (.ref w_AND_BOTH_PERMIT), .val (.ref w_INDETERMINATE), .val (.ref w_PERMIT)] [(.ref w_AND_BOTH_PERMIT)])) _
    refine st1.trans ?_
    show Steps p.tables e below (T1.setTop (mkF m 4 #[.val (.ref w_AND_BOTH_PERMIT), .val (.ref w_INDETERMINATE), .val (.ref w_PERMIT)] [(.int 2)])) _
    refine XS.tswIn X1.here hx rfl (pc0 := 4) (pc' := 76) rfl (hb hby d1_4) rfl (by decide) (o := 72) (by decide) (by decide) (by decide) ?_
    show Steps p.tables e below (T1.setTop (mkF m 76 #[.val (.ref w_AND_BOTH_PERMIT), .val (.ref w_INDETERMINATE), .val (.ref w_PERMIT)] [])) _
    refine XS.aloadN X1.here hx rfl (hb hby d1_76) rfl rfl ?_
    show Steps p.tables e below (T1.setTop (mkF m 77 #[.val (.ref w_AND_BOTH_PERMIT), .val (.ref w_INDETERMINATE), .val (.ref w_PERMIT)] [(.ref w_INDETERMINATE)])) _
    refine st2 _ ?_
    show Steps p.tables e below (T2.setTop (mkF m 80 #[.val (.ref w_AND_BOTH_PERMIT), .val (.ref w_INDETERMINATE), .val (.ref w_PERMIT)] [(.ref w_PERMIT), (.ref w_INDETERMINATE)])) _
    refine Jvm.RoadKit.acmp (g := (mkF m 80 #[.val (.ref w_AND_BOTH_PERMIT), .val (.ref w_INDETERMINATE), .val (.ref w_PERMIT)] [(.ref w_PERMIT), (.ref w_INDETERMINATE)])) X2 hx rfl rfl rfl (pc0 := 80) (pc' := 96) (same := false) rfl (hb hby d1_80) rfl (decide_eq_false fun q => n_w_INDETERMINATE_w_PERMIT (Value.ref.inj q)) (by decide) (by decide) ?_
    show Steps p.tables e below (T2.setTop (mkF m 96 #[.val (.ref w_AND_BOTH_PERMIT), .val (.ref w_INDETERMINATE), .val (.ref w_PERMIT)] [])) _
    refine st3 _ ?_
    show Steps p.tables e below (T3.setTop (mkF m 99 #[.val (.ref w_AND_BOTH_PERMIT), .val (.ref w_INDETERMINATE), .val (.ref w_PERMIT)] [(.ref w_DENY)])) _
    refine XS.goto X3.here hx rfl (pc0 := 99) (pc' := 112) rfl (hb hby d1_99) (by decide) (by decide) ?_
    show Steps p.tables e below (T3.setTop (mkF m 112 #[.val (.ref w_AND_BOTH_PERMIT), .val (.ref w_INDETERMINATE), .val (.ref w_PERMIT)] [(.ref w_DENY)])) _
    jvm_step X3.here [X3.here.top, hx, (hb hby d1_112), X3.method', Bd.returns, Value.isRef, FieldType.isReference]
    first | (intro acts; rw [hr _ acts rfl rfl rfl]) | rw [hr _ _ rfl rfl rfl]
    exact Steps.refl _
  · show Q1_w_AND_BOTH_PERMIT_w_INDETERMINATE_w_PERMIT Z w_AND_BOTH_PERMIT w_INDETERMINATE w_PERMIT w_DENY h0 n0 _ T3.heap _
    rw [e3]
    exact ⟨rfl, N1, rfl⟩
set_option maxRecDepth 65536 in
set_option maxHeartbeats 40000000 in
theorem pc0_k220 {p : Program} {l : Launch} {e : Env} {s : State} {m : MethodId} {args : Array Value} {below : List Frame} {meth : Method} {c : Code} {T0 : State} {locs : List Loc} {Z : State} {a0 : Array Value} {h0 : Heap} {n0 : Nat} (p1 : Int32) (p2 : Int32) (p3 : Int32) (b1 : Addr) (b8 : Addr) (b15 : Addr) (k1 : ClassId) (w_CHILD_OVERRIDES : Addr) (w_PARENT_OVERRIDES : Addr) (w_AND_BOTH_PERMIT : Addr) (k8 : ClassId) (w_PERMIT : Addr) (w_DENY : Addr) (w_INDETERMINATE : Addr) (k15 : ClassId)
    (X0 : Stand p l e room_1 s m args below meth c T0 locs 3 33) (hx : p.tables.exec = Jvm.exec) (hZ : Z.Warmed39 s.vm) (hw : ∀ d ∈ tables_1, d.before a0 Z = true) (hby : c.code = code) (hml : c.maxLocals = 10) (hown : s.vm.findClass "com/example/tributary/tributary/InheritanceTypeCombinePinLaw" = some m.cls) (e0 : T0.heap = h0) (Z0 : n0 ≤ h0.size) (N0 : Fr n0 locs) (V_b1 : Arv Z h0 b1 k1 (.object "com/example/tributary/tributary/AccessList$InheritanceType") (3 : Int32) [(.ref w_CHILD_OVERRIDES), (.ref w_PARENT_OVERRIDES), (.ref w_AND_BOTH_PERMIT)] .null) (V_b8 : Arv Z h0 b8 k8 (.object "com/example/tributary/tributary/AccessList$Decision") (3 : Int32) [(.ref w_PERMIT), (.ref w_DENY), (.ref w_INDETERMINATE)] .null) (F_ordinal_w_AND_BOTH_PERMIT : Fld Z h0 w_AND_BOTH_PERMIT "java/lang/Enum" "ordinal" "I" (.int 2)) (E_w_AND_BOTH_PERMIT : Exa Z h0 w_AND_BOTH_PERMIT "com/example/tributary/tributary/AccessList$InheritanceType") (S_PERMIT : Sta Z h0 "com/example/tributary/tributary/AccessList$Decision" "PERMIT" "Lcom/example/tributary/tributary/AccessList$Decision;" (.ref w_PERMIT)) (n_w_INDETERMINATE_w_PERMIT : ¬ (w_INDETERMINATE = w_PERMIT)) (S_DENY : Sta Z h0 "com/example/tributary/tributary/AccessList$Decision" "DENY" "Lcom/example/tributary/tributary/AccessList$Decision;" (.ref w_DENY)) (V_b15 : Arv Z h0 b15 k15 .int (27 : Int32) [(.int 0), (.int 1), (.int 0), (.int 0), (.int 1), (.int 1), (.int 0), (.int 1), (.int 2), (.int 0), (.int 0), (.int 0), (.int 1), (.int 1), (.int 1), (.int 0), (.int 1), (.int 2), (.int 0), (.int 1), (.int 1), (.int 1), (.int 1), (.int 1), (.int 1), (.int 1), (.int 1)] (.int (0 : Int32))) :
    ∃ (T' : State) (L' : List Loc) (Ls : Array Slot), Stand p l e room_1 s m args below meth c T' L' 3 33 ∧ Fr n0 L' ∧ ∀ target, Steps p.tables e below (T'.setTop (mkF m 253 Ls [(.int 1)])) target → Steps p.tables e below (T0.setTop (mkF m 206 #[.val (.int p1), .val (.int p2), .val (.int p3), .val (.int 2), .val (.int 2), .val (.int 0), .val (.ref b1), .val (.ref b8), .val (.ref b15), .unset] [])) target := by
  obtain ⟨cq1, kq1, q1a, q1b, q1c⟩ := isOf hZ e0 E_w_AND_BOTH_PERMIT
  obtain ⟨_, _, ⟨T1, L1, k1, n1⟩, -, X1, ⟨Lc1, hQ1, l1, y1, z1⟩, st1⟩ := X0.virtualBack hx (y := (⟨"com/example/tributary/tributary/AccessList$InheritanceType", "combine", "(Lcom/example/tributary/tributary/AccessList$Decision;Lcom/example/tributary/tributary/AccessList$Decision;)Lcom/example/tributary/tributary/AccessList$Decision;"⟩ : MethodName)) (z := (⟨"com/example/tributary/tributary/AccessList$InheritanceType", "combine", "(Lcom/example/tributary/tributary/AccessList$Decision;Lcom/example/tributary/tributary/AccessList$Decision;)Lcom/example/tributary/tributary/AccessList$Decision;"⟩ : MethodName)) hown (mvT hZ (hw _ (List.mem_of_getElem? (i := 22) rfl))) (mvT hZ (hw _ (List.mem_of_getElem? (i := 23) rfl))) (notFace_of_selects (args := #[]) (mvT hZ (hw _ (List.mem_of_getElem? (i := 25) rfl)))) (mvT hZ (hw _ (List.mem_of_getElem? (i := 25) rfl))) (mvT hZ (hw _ (List.mem_of_getElem? (i := 24) rfl))) (by decide) (backOf (W := 0) (rm1_w_AND_BOTH_PERMIT_w_INDETERMINATE_w_PERMIT l Z a0 hw [] w_AND_BOTH_PERMIT w_INDETERMINATE w_PERMIT w_DENY h0 n0 Z0 F_ordinal_w_AND_BOTH_PERMIT E_w_AND_BOTH_PERMIT S_PERMIT n_w_INDETERMINATE_w_PERMIT S_DENY) hZ (hw _ (List.mem_of_getElem? (i := 26) rfl)) (hw _ (List.mem_of_getElem? (i := 4) rfl)) (by decide) (by decide)) q1a q1c (g := (mkF m 220 #[.val (.int p1), .val (.int p2), .val (.int p3), .val (.int 2), .val (.int 2), .val (.int 0), .val (.ref b1), .val (.ref b8), .val (.ref b15), .unset] [(.ref w_PERMIT), (.ref w_INDETERMINATE), (.ref w_AND_BOTH_PERMIT)])) rfl (by rw [hml]; rfl) (Steps.refl _) (argsL := [(.ref w_INDETERMINATE), (.ref w_PERMIT)]) (rest := []) (lenOf pd__Lcom_example_tributary_tributary_AccessList_Decision_Lcom_example_tributary_tributary_AccessList_Decision__Lcom_example_tributary_tributary_AccessList_Decision_ rfl) rfl (by show 2 * 0 + _ ≤ _; exact Nat.le_of_eq rfl) (hb hby at_220) (fun _ _ => ⟨rfl, e0, (by decide : 3 + 0 ≤ _), (by decide : 33 + 0 ≤ _)⟩)
  dsimp only [Pt.U, Pt.locs, Pt.cells, Pt.slots] at X1 l1 y1 z1 st1 hQ1
  subst l1 y1 z1
  obtain ⟨rfl, N1q, e1⟩ := hQ1
  have N1 := Fr.app N0 N1q
  refine ⟨T1, _, #[.val (.int p1), .val (.int p2), .val (.int p3), .val (.int 2), .val (.int 2), .val (.int 0), .val (.ref b1), .val (.ref b8), .val (.ref b15), .val (.ref w_DENY)], X1, N1, fun target kt => ?_⟩
  show Steps p.tables e below (T0.setTop (mkF m 206 #[.val (.int p1), .val (.int p2), .val (.int p3), .val (.int 2), .val (.int 2), .val (.int 0), .val (.ref b1), .val (.ref b8), .val (.ref b15), .unset] [])) _
  refine XS.aload X0.here hx rfl (hb hby at_206) rfl rfl ?_
  show Steps p.tables e below (T0.setTop (mkF m 208 #[.val (.int p1), .val (.int p2), .val (.int p3), .val (.int 2), .val (.int 2), .val (.int 0), .val (.ref b1), .val (.ref b8), .val (.ref b15), .unset] [(.ref b1)])) _
  refine XS.iloadN X0.here hx rfl (hb hby at_208) rfl ?_
  show Steps p.tables e below (T0.setTop (mkF m 209 #[.val (.int p1), .val (.int p2), .val (.int p3), .val (.int 2), .val (.int 2), .val (.int 0), .val (.ref b1), .val (.ref b8), .val (.ref b15), .unset] [(.int 2), (.ref b1)])) _
  refine own_ldR X0 hx hZ e0 V_b1 (j := (2 : Int32)) ⟨by decide, by decide⟩ rfl (g := (mkF m 209 #[.val (.int p1), .val (.int p2), .val (.int p3), .val (.int 2), .val (.int 2), .val (.int 0), .val (.ref b1), .val (.ref b8), .val (.ref b15), .unset] [(.int 2), (.ref b1)])) rfl rfl (hb hby at_209) _ ?_
  show Steps p.tables e below (T0.setTop (mkF m 210 #[.val (.int p1), .val (.int p2), .val (.int p3), .val (.int 2), .val (.int 2), .val (.int 0), .val (.ref b1), .val (.ref b8), .val (.ref b15), .unset] [(.ref w_AND_BOTH_PERMIT)])) _
  refine XS.aload X0.here hx rfl (hb hby at_210) rfl rfl ?_
  show Steps p.tables e below (T0.setTop (mkF m 212 #[.val (.int p1), .val (.int p2), .val (.int p3), .val (.int 2), .val (.int 2), .val (.int 0), .val (.ref b1), .val (.ref b8), .val (.ref b15), .unset] [(.ref b8), (.ref w_AND_BOTH_PERMIT)])) _
  refine XS.iload X0.here hx rfl (hb hby at_212) rfl ?_
  show Steps p.tables e below (T0.setTop (mkF m 214 #[.val (.int p1), .val (.int p2), .val (.int p3), .val (.int 2), .val (.int 2), .val (.int 0), .val (.ref b1), .val (.ref b8), .val (.ref b15), .unset] [(.int 2), (.ref b8), (.ref w_AND_BOTH_PERMIT)])) _
  refine own_ldR X0 hx hZ e0 V_b8 (j := (2 : Int32)) ⟨by decide, by decide⟩ rfl (g := (mkF m 214 #[.val (.int p1), .val (.int p2), .val (.int p3), .val (.int 2), .val (.int 2), .val (.int 0), .val (.ref b1), .val (.ref b8), .val (.ref b15), .unset] [(.int 2), (.ref b8), (.ref w_AND_BOTH_PERMIT)])) rfl rfl (hb hby at_214) _ ?_
  show Steps p.tables e below (T0.setTop (mkF m 215 #[.val (.int p1), .val (.int p2), .val (.int p3), .val (.int 2), .val (.int 2), .val (.int 0), .val (.ref b1), .val (.ref b8), .val (.ref b15), .unset] [(.ref w_INDETERMINATE), (.ref w_AND_BOTH_PERMIT)])) _
  refine XS.aload X0.here hx rfl (hb hby at_215) rfl rfl ?_
  show Steps p.tables e below (T0.setTop (mkF m 217 #[.val (.int p1), .val (.int p2), .val (.int p3), .val (.int 2), .val (.int 2), .val (.int 0), .val (.ref b1), .val (.ref b8), .val (.ref b15), .unset] [(.ref b8), (.ref w_INDETERMINATE), (.ref w_AND_BOTH_PERMIT)])) _
  refine XS.iload X0.here hx rfl (hb hby at_217) rfl ?_
  show Steps p.tables e below (T0.setTop (mkF m 219 #[.val (.int p1), .val (.int p2), .val (.int p3), .val (.int 2), .val (.int 2), .val (.int 0), .val (.ref b1), .val (.ref b8), .val (.ref b15), .unset] [(.int 0), (.ref b8), (.ref w_INDETERMINATE), (.ref w_AND_BOTH_PERMIT)])) _
  refine own_ldR X0 hx hZ e0 V_b8 (j := (0 : Int32)) ⟨by decide, by decide⟩ rfl (g := (mkF m 219 #[.val (.int p1), .val (.int p2), .val (.int p3), .val (.int 2), .val (.int 2), .val (.int 0), .val (.ref b1), .val (.ref b8), .val (.ref b15), .unset] [(.int 0), (.ref b8), (.ref w_INDETERMINATE), (.ref w_AND_BOTH_PERMIT)])) rfl rfl (hb hby at_219) _ ?_
  show Steps p.tables e below (T0.setTop (mkF m 220 #[.val (.int p1), .val (.int p2), .val (.int p3), .val (.int 2), .val (.int 2), .val (.int 0), .val (.ref b1), .val (.ref b8), .val (.ref b15), .unset] [(.ref w_PERMIT), (.ref w_INDETERMINATE), (.ref w_AND_BOTH_PERMIT)])) _
  refine st1.trans ?_
  show Steps p.tables e below (T1.setTop (mkF m 223 #[.val (.int p1), .val (.int p2), .val (.int p3), .val (.int 2), .val (.int 2), .val (.int 0), .val (.ref b1), .val (.ref b8), .val (.ref b15), .unset] [(.ref w_DENY)])) _
  refine XS.astore X1.here hx rfl (hb hby at_223) rfl rfl (l' := #[.val (.int p1), .val (.int p2), .val (.int p3), .val (.int 2), .val (.int 2), .val (.int 0), .val (.ref b1), .val (.ref b8), .val (.ref b15), .val (.ref w_DENY)]) rfl ?_
  show Steps p.tables e below (T1.setTop (mkF m 225 #[.val (.int p1), .val (.int p2), .val (.int p3), .val (.int 2), .val (.int 2), .val (.int 0), .val (.ref b1), .val (.ref b8), .val (.ref b15), .val (.ref w_DENY)] [])) _
  refine XS.aload X1.here hx rfl (hb hby at_225) rfl rfl ?_
  show Steps p.tables e below (T1.setTop (mkF m 227 #[.val (.int p1), .val (.int p2), .val (.int p3), .val (.int 2), .val (.int 2), .val (.int 0), .val (.ref b1), .val (.ref b8), .val (.ref b15), .val (.ref w_DENY)] [(.ref w_DENY)])) _
  refine XS.aload X1.here hx rfl (hb hby at_227) rfl rfl ?_
  show Steps p.tables e below (T1.setTop (mkF m 229 #[.val (.int p1), .val (.int p2), .val (.int p3), .val (.int 2), .val (.int 2), .val (.int 0), .val (.ref b1), .val (.ref b8), .val (.ref b15), .val (.ref w_DENY)] [(.ref b8), (.ref w_DENY)])) _
  refine XS.aload X1.here hx rfl (hb hby at_229) rfl rfl ?_
  show Steps p.tables e below (T1.setTop (mkF m 231 #[.val (.int p1), .val (.int p2), .val (.int p3), .val (.int 2), .val (.int 2), .val (.int 0), .val (.ref b1), .val (.ref b8), .val (.ref b15), .val (.ref w_DENY)] [(.ref b15), (.ref b8), (.ref w_DENY)])) _
  refine XS.iloadN X1.here hx rfl (hb hby at_231) rfl ?_
  show Steps p.tables e below (T1.setTop (mkF m 232 #[.val (.int p1), .val (.int p2), .val (.int p3), .val (.int 2), .val (.int 2), .val (.int 0), .val (.ref b1), .val (.ref b8), .val (.ref b15), .val (.ref w_DENY)] [(.int 2), (.ref b15), (.ref b8), (.ref w_DENY)])) _
  refine XS.bipush X1.here hx rfl (hb hby at_232) ?_
  show Steps p.tables e below (T1.setTop (mkF m 234 #[.val (.int p1), .val (.int p2), .val (.int p3), .val (.int 2), .val (.int 2), .val (.int 0), .val (.ref b1), .val (.ref b8), .val (.ref b15), .val (.ref w_DENY)] [(.int 9), (.int 2), (.ref b15), (.ref b8), (.ref w_DENY)])) _
  refine XS.imul X1.here hx rfl (hb hby at_234) rfl ?_
  show Steps p.tables e below (T1.setTop (mkF m 235 #[.val (.int p1), .val (.int p2), .val (.int p3), .val (.int 2), .val (.int 2), .val (.int 0), .val (.ref b1), .val (.ref b8), .val (.ref b15), .val (.ref w_DENY)] [(.int ((2 : Int32) * (9 : Int32))), (.ref b15), (.ref b8), (.ref w_DENY)])) _
  rw [(by decide : ((2 : Int32) * (9 : Int32)) = (18 : Int32))]
  show Steps p.tables e below (T1.setTop (mkF m 235 #[.val (.int p1), .val (.int p2), .val (.int p3), .val (.int 2), .val (.int 2), .val (.int 0), .val (.ref b1), .val (.ref b8), .val (.ref b15), .val (.ref w_DENY)] [(.int 18), (.ref b15), (.ref b8), (.ref w_DENY)])) _
  refine XS.iload X1.here hx rfl (hb hby at_235) rfl ?_
  show Steps p.tables e below (T1.setTop (mkF m 237 #[.val (.int p1), .val (.int p2), .val (.int p3), .val (.int 2), .val (.int 2), .val (.int 0), .val (.ref b1), .val (.ref b8), .val (.ref b15), .val (.ref w_DENY)] [(.int 2), (.int 18), (.ref b15), (.ref b8), (.ref w_DENY)])) _
  refine XS.iconst X1.here hx rfl (hb hby at_237) ?_
  show Steps p.tables e below (T1.setTop (mkF m 238 #[.val (.int p1), .val (.int p2), .val (.int p3), .val (.int 2), .val (.int 2), .val (.int 0), .val (.ref b1), .val (.ref b8), .val (.ref b15), .val (.ref w_DENY)] [(.int 3), (.int 2), (.int 18), (.ref b15), (.ref b8), (.ref w_DENY)])) _
  refine XS.imul X1.here hx rfl (hb hby at_238) rfl ?_
  show Steps p.tables e below (T1.setTop (mkF m 239 #[.val (.int p1), .val (.int p2), .val (.int p3), .val (.int 2), .val (.int 2), .val (.int 0), .val (.ref b1), .val (.ref b8), .val (.ref b15), .val (.ref w_DENY)] [(.int ((2 : Int32) * (3 : Int32))), (.int 18), (.ref b15), (.ref b8), (.ref w_DENY)])) _
  rw [(by decide : ((2 : Int32) * (3 : Int32)) = (6 : Int32))]
  show Steps p.tables e below (T1.setTop (mkF m 239 #[.val (.int p1), .val (.int p2), .val (.int p3), .val (.int 2), .val (.int 2), .val (.int 0), .val (.ref b1), .val (.ref b8), .val (.ref b15), .val (.ref w_DENY)] [(.int 6), (.int 18), (.ref b15), (.ref b8), (.ref w_DENY)])) _
  refine XS.iadd X1.here hx rfl (hb hby at_239) rfl ?_
  show Steps p.tables e below (T1.setTop (mkF m 240 #[.val (.int p1), .val (.int p2), .val (.int p3), .val (.int 2), .val (.int 2), .val (.int 0), .val (.ref b1), .val (.ref b8), .val (.ref b15), .val (.ref w_DENY)] [(.int ((18 : Int32) + (6 : Int32))), (.ref b15), (.ref b8), (.ref w_DENY)])) _
  rw [(by decide : ((18 : Int32) + (6 : Int32)) = (24 : Int32))]
  show Steps p.tables e below (T1.setTop (mkF m 240 #[.val (.int p1), .val (.int p2), .val (.int p3), .val (.int 2), .val (.int 2), .val (.int 0), .val (.ref b1), .val (.ref b8), .val (.ref b15), .val (.ref w_DENY)] [(.int 24), (.ref b15), (.ref b8), (.ref w_DENY)])) _
  refine XS.iload X1.here hx rfl (hb hby at_240) rfl ?_
  show Steps p.tables e below (T1.setTop (mkF m 242 #[.val (.int p1), .val (.int p2), .val (.int p3), .val (.int 2), .val (.int 2), .val (.int 0), .val (.ref b1), .val (.ref b8), .val (.ref b15), .val (.ref w_DENY)] [(.int 0), (.int 24), (.ref b15), (.ref b8), (.ref w_DENY)])) _
  refine XS.iadd X1.here hx rfl (hb hby at_242) rfl ?_
  show Steps p.tables e below (T1.setTop (mkF m 243 #[.val (.int p1), .val (.int p2), .val (.int p3), .val (.int 2), .val (.int 2), .val (.int 0), .val (.ref b1), .val (.ref b8), .val (.ref b15), .val (.ref w_DENY)] [(.int ((24 : Int32) + (0 : Int32))), (.ref b15), (.ref b8), (.ref w_DENY)])) _
  rw [(by decide : ((24 : Int32) + (0 : Int32)) = (24 : Int32))]
  show Steps p.tables e below (T1.setTop (mkF m 243 #[.val (.int p1), .val (.int p2), .val (.int p3), .val (.int 2), .val (.int 2), .val (.int 0), .val (.ref b1), .val (.ref b8), .val (.ref b15), .val (.ref w_DENY)] [(.int 24), (.ref b15), (.ref b8), (.ref w_DENY)])) _
  refine own_ldI X1 hx hZ e1 V_b15 (j := (24 : Int32)) ⟨by decide, by decide⟩ rfl (g := (mkF m 243 #[.val (.int p1), .val (.int p2), .val (.int p3), .val (.int 2), .val (.int 2), .val (.int 0), .val (.ref b1), .val (.ref b8), .val (.ref b15), .val (.ref w_DENY)] [(.int 24), (.ref b15), (.ref b8), (.ref w_DENY)])) rfl rfl (hb hby at_243) _ ?_
  show Steps p.tables e below (T1.setTop (mkF m 244 #[.val (.int p1), .val (.int p2), .val (.int p3), .val (.int 2), .val (.int 2), .val (.int 0), .val (.ref b1), .val (.ref b8), .val (.ref b15), .val (.ref w_DENY)] [(.int 1), (.ref b8), (.ref w_DENY)])) _
  refine own_ldR X1 hx hZ e1 V_b8 (j := (1 : Int32)) ⟨by decide, by decide⟩ rfl (g := (mkF m 244 #[.val (.int p1), .val (.int p2), .val (.int p3), .val (.int 2), .val (.int 2), .val (.int 0), .val (.ref b1), .val (.ref b8), .val (.ref b15), .val (.ref w_DENY)] [(.int 1), (.ref b8), (.ref w_DENY)])) rfl rfl (hb hby at_244) _ ?_
  show Steps p.tables e below (T1.setTop (mkF m 245 #[.val (.int p1), .val (.int p2), .val (.int p3), .val (.int 2), .val (.int 2), .val (.int 0), .val (.ref b1), .val (.ref b8), .val (.ref b15), .val (.ref w_DENY)] [(.ref w_DENY), (.ref w_DENY)])) _
  refine Jvm.RoadKit.acmp (g := (mkF m 245 #[.val (.int p1), .val (.int p2), .val (.int p3), .val (.int 2), .val (.int 2), .val (.int 0), .val (.ref b1), .val (.ref b8), .val (.ref b15), .val (.ref w_DENY)] [(.ref w_DENY), (.ref w_DENY)])) X1 hx rfl rfl rfl (pc0 := 245) (pc' := 248) (same := true) rfl (hb hby at_245) rfl (decide_eq_true rfl) (by decide) (by decide) ?_
  show Steps p.tables e below (T1.setTop (mkF m 248 #[.val (.int p1), .val (.int p2), .val (.int p3), .val (.int 2), .val (.int 2), .val (.int 0), .val (.ref b1), .val (.ref b8), .val (.ref b15), .val (.ref w_DENY)] [])) _
  refine XS.iconst X1.here hx rfl (hb hby at_248) ?_
  show Steps p.tables e below (T1.setTop (mkF m 249 #[.val (.int p1), .val (.int p2), .val (.int p3), .val (.int 2), .val (.int 2), .val (.int 0), .val (.ref b1), .val (.ref b8), .val (.ref b15), .val (.ref w_DENY)] [(.int 1)])) _
  refine XS.goto X1.here hx rfl (pc0 := 249) (pc' := 253) rfl (hb hby at_249) (by decide) (by decide) ?_
  show Steps p.tables e below (T1.setTop (mkF m 253 #[.val (.int p1), .val (.int p2), .val (.int p3), .val (.int 2), .val (.int 2), .val (.int 0), .val (.ref b1), .val (.ref b8), .val (.ref b15), .val (.ref w_DENY)] [(.int 1)])) _
  exact kt
def Q1_w_AND_BOTH_PERMIT_w_INDETERMINATE_w_DENY (Z : State) (w_AND_BOTH_PERMIT : Addr) (w_INDETERMINATE : Addr) (w_DENY : Addr) (w_PERMIT : Addr) (h0 : Heap) (n0 : Nat) (v : Option Value) (h : Heap) (L : List Loc) : Prop := v = some (.ref w_DENY) ∧ Fr n0 L ∧ h = h0
set_option maxRecDepth 65536 in
set_option maxHeartbeats 40000000 in
theorem rm1_w_AND_BOTH_PERMIT_w_INDETERMINATE_w_DENY (l : Launch) (Z : State) (a0 : Array Value) (hw : ∀ d ∈ tables_1, d.before a0 Z = true) (ws : List Jvm.Cond) (w_AND_BOTH_PERMIT : Addr) (w_INDETERMINATE : Addr) (w_DENY : Addr) (w_PERMIT : Addr) (h0 : Heap) (n0 : Nat) (Z0 : n0 ≤ h0.size) (F_ordinal_w_AND_BOTH_PERMIT : Fld Z h0 w_AND_BOTH_PERMIT "java/lang/Enum" "ordinal" "I" (.int 2)) (E_w_AND_BOTH_PERMIT : Exa Z h0 w_AND_BOTH_PERMIT "com/example/tributary/tributary/AccessList$InheritanceType") (S_PERMIT : Sta Z h0 "com/example/tributary/tributary/AccessList$Decision" "PERMIT" "Lcom/example/tributary/tributary/AccessList$Decision;" (.ref w_PERMIT)) (n_w_INDETERMINATE_w_PERMIT : ¬ (w_INDETERMINATE = w_PERMIT)) (S_DENY : Sta Z h0 "com/example/tributary/tributary/AccessList$Decision" "DENY" "Lcom/example/tributary/tributary/AccessList$Decision;" (.ref w_DENY)) :
    MetFree l (⟨"com/example/tributary/tributary/AccessList$InheritanceType", "combine", "(Lcom/example/tributary/tributary/AccessList$Decision;Lcom/example/tributary/tributary/AccessList$Decision;)Lcom/example/tributary/tributary/AccessList$Decision;"⟩ : MethodName) (head1 (Jvm.Cond.code (⟨"com/example/tributary/tributary/AccessList$InheritanceType", "combine", "(Lcom/example/tributary/tributary/AccessList$Decision;Lcom/example/tributary/tributary/AccessList$Decision;)Lcom/example/tributary/tributary/AccessList$Decision;"⟩ : MethodName) prog_6_method_4_code 3 (some (.object "com/example/tributary/tributary/AccessList$Decision")) :: ws) ({ frames := 1, cells := 0, slots := 0, locals := 12 } : Room)) (fun a U => a = #[(.ref w_AND_BOTH_PERMIT), (.ref w_INDETERMINATE), (.ref w_DENY)] ∧ Z.Warmed39 U.vm ∧ U.heap = h0) (fun _ _ _ _ _ => True) (fun _ U o U' => ∃ v L, o = .returned v ∧ Q1_w_AND_BOTH_PERMIT_w_INDETERMINATE_w_DENY Z w_AND_BOTH_PERMIT w_INDETERMINATE w_DENY w_PERMIT h0 n0 v U'.heap L ∧ FrameEnd U o U' L ({ frames := 1, cells := 0, slots := 0, locals := 12 } : Room).cells ({ frames := 1, cells := 0, slots := 0, locals := 12 } : Room).slots) := by
  refine MetFree.of_bodySF (plainFor_of_name pn_1) hisR ?_
  intro p e s m args below meth c s₁ Bd hml0 hP hK
  obtain ⟨rfl, hZ, hh⟩ := hP
  have hx := Bd.exec
  have hby := Bd.bytes
  have hml : c.maxLocals = 3 := hml0
  have hown : s.vm.findClass "com/example/tributary/tributary/AccessList$InheritanceType" = some m.cls := findClass_of_methodNamed Bd.named
  have hnm := (name_of_methodNamed Bd.named Bd.method).1
  have X0 : Stand p l e ({ frames := 1, cells := 0, slots := 0, locals := 12 } : Room) s m #[(.ref w_AND_BOTH_PERMIT), (.ref w_INDETERMINATE), (.ref w_DENY)] below meth c s₁ [] 0 0 := Stand.of_body Bd
  have e0 : s₁.heap = h0 := by rw [← hh, Bd.state]; rfl
  have N0 := Fr.nil n0
  have pre0 : ∀ t, Steps p.tables e below (s₁.setTop (mkF m 0 #[.val (.ref w_AND_BOTH_PERMIT), .val (.ref w_INDETERMINATE), .val (.ref w_DENY)] [])) t → Steps p.tables e below (s₁.setTop (entryFrame m #[(.ref w_AND_BOTH_PERMIT), (.ref w_INDETERMINATE), (.ref w_DENY)] 3)) t := fun t k => castTop (by first | (simp [entryFrame, mkF, argsToLocals, Value.category]; done) | rfl) k
  obtain ⟨cq1, kq1, q1a, q1b, q1c⟩ := isOf hZ e0 E_w_AND_BOTH_PERMIT
  obtain ⟨_, _, ⟨T1, L1, k1, n1⟩, -, X1, ⟨Lc1, hQ1, l1, y1, z1⟩, st1⟩ := X0.virtualBackUp hx (x := (⟨"com/example/tributary/tributary/AccessList$InheritanceType", "ordinal", "()I"⟩ : MethodName)) (y := (⟨"java/lang/Enum", "ordinal", "()I"⟩ : MethodName)) (owner := "java/lang/Enum") hown (mvT hZ (hw _ (List.mem_of_getElem? (i := 27) rfl))) (mvT hZ (hw _ (List.mem_of_getElem? (i := 28) rfl))) (mvT hZ (hw _ (List.mem_of_getElem? (i := 29) rfl))) (by decide) (mvT hZ (hw _ (List.mem_of_getElem? (i := 31) rfl))) (mvT hZ (hw _ (List.mem_of_getElem? (i := 30) rfl))) (backOf (W := 0) (rm2_w_AND_BOTH_PERMIT l Z a0 hw [] w_AND_BOTH_PERMIT h0 n0 Z0 F_ordinal_w_AND_BOTH_PERMIT) hZ (hw _ (List.mem_of_getElem? (i := 33) rfl)) (hw _ (List.mem_of_getElem? (i := 32) rfl)) (by decide) (by decide)) q1a q1c (g := (mkF m 1 #[.val (.ref w_AND_BOTH_PERMIT), .val (.ref w_INDETERMINATE), .val (.ref w_DENY)] [(.ref w_AND_BOTH_PERMIT)])) rfl (by rw [hml]; rfl) (Steps.refl _) (argsL := []) (rest := []) (lenOf pd___I rfl) rfl (by show 2 * 0 + _ ≤ _; exact Nat.le_of_eq rfl) (hb hby d1_1) (fun _ _ => ⟨rfl, e0, (by decide : 0 + 0 ≤ _), (by decide : 0 + 0 ≤ _)⟩)
  dsimp only [Pt.U, Pt.locs, Pt.cells, Pt.slots] at X1 l1 y1 z1 st1 hQ1
  subst l1 y1 z1
  obtain ⟨rfl, N1q, e1⟩ := hQ1
  have N1 := Fr.app N0 N1q
  obtain ⟨T2, X2, e2, st2⟩ := getS2 X1 hx hZ hown (host := "") (Or.inl (hw _ (List.mem_of_getElem? (i := 37) rfl))) Via.refl e1 S_PERMIT (g := (mkF m 77 #[.val (.ref w_AND_BOTH_PERMIT), .val (.ref w_INDETERMINATE), .val (.ref w_DENY)] [(.ref w_INDETERMINATE)])) rfl (hb hby d1_77)
  obtain ⟨T3, X3, e3, st3⟩ := getS2 X2 hx hZ hown (host := "") (Or.inl (hw _ (List.mem_of_getElem? (i := 38) rfl))) Via.refl e2 S_DENY (g := (mkF m 96 #[.val (.ref w_AND_BOTH_PERMIT), .val (.ref w_INDETERMINATE), .val (.ref w_DENY)] [])) rfl (hb hby d1_96)
  obtain ⟨fs, hr, hrun, hended, hW, hsame⟩ := X3.leave (v := some (.ref w_DENY)) (fun h => by rw [Bd.returns] at h; cases h)
  refine ⟨_, _, pre0 _ ?_, hrun, hended, _, _, rfl, ?_, ⟨_, rfl⟩, hW, hsame.mono (by decide) (by decide)⟩
  · show Steps p.tables e below (s₁.setTop (mkF m 0 #[.val (.ref w_AND_BOTH_PERMIT), .val (.ref w_INDETERMINATE), .val (.ref w_DENY)] [])) _
    refine XS.aloadN X0.here hx rfl (hb hby d1_0) rfl rfl ?_
    show Steps p.tables e below (s₁.setTop (mkF m 1 #[.val (.ref w_AND_BOTH_PERMIT), .val (.ref w_INDETERMINATE), .val (.ref w_DENY)] [(.ref w_AND_BOTH_PERMIT)])) _
    refine st1.trans ?_
    show Steps p.tables e below (T1.setTop (mkF m 4 #[.val (.ref w_AND_BOTH_PERMIT), .val (.ref w_INDETERMINATE), .val (.ref w_DENY)] [(.int 2)])) _
    refine XS.tswIn X1.here hx rfl (pc0 := 4) (pc' := 76) rfl (hb hby d1_4) rfl (by decide) (o := 72) (by decide) (by decide) (by decide) ?_
    show Steps p.tables e below (T1.setTop (mkF m 76 #[.val (.ref w_AND_BOTH_PERMIT), .val (.ref w_INDETERMINATE), .val (.ref w_DENY)] [])) _
    refine XS.aloadN X1.here hx rfl (hb hby d1_76) rfl rfl ?_
    show Steps p.tables e below (T1.setTop (mkF m 77 #[.val (.ref w_AND_BOTH_PERMIT), .val (.ref w_INDETERMINATE), .val (.ref w_DENY)] [(.ref w_INDETERMINATE)])) _
    refine st2 _ ?_
    show Steps p.tables e below (T2.setTop (mkF m 80 #[.val (.ref w_AND_BOTH_PERMIT), .val (.ref w_INDETERMINATE), .val (.ref w_DENY)] [(.ref w_PERMIT), (.ref w_INDETERMINATE)])) _
    refine Jvm.RoadKit.acmp (g := (mkF m 80 #[.val (.ref w_AND_BOTH_PERMIT), .val (.ref w_INDETERMINATE), .val (.ref w_DENY)] [(.ref w_PERMIT), (.ref w_INDETERMINATE)])) X2 hx rfl rfl rfl (pc0 := 80) (pc' := 96) (same := false) rfl (hb hby d1_80) rfl (decide_eq_false fun q => n_w_INDETERMINATE_w_PERMIT (Value.ref.inj q)) (by decide) (by decide) ?_
    show Steps p.tables e below (T2.setTop (mkF m 96 #[.val (.ref w_AND_BOTH_PERMIT), .val (.ref w_INDETERMINATE), .val (.ref w_DENY)] [])) _
    refine st3 _ ?_
    show Steps p.tables e below (T3.setTop (mkF m 99 #[.val (.ref w_AND_BOTH_PERMIT), .val (.ref w_INDETERMINATE), .val (.ref w_DENY)] [(.ref w_DENY)])) _
    refine XS.goto X3.here hx rfl (pc0 := 99) (pc' := 112) rfl (hb hby d1_99) (by decide) (by decide) ?_
    show Steps p.tables e below (T3.setTop (mkF m 112 #[.val (.ref w_AND_BOTH_PERMIT), .val (.ref w_INDETERMINATE), .val (.ref w_DENY)] [(.ref w_DENY)])) _
    jvm_step X3.here [X3.here.top, hx, (hb hby d1_112), X3.method', Bd.returns, Value.isRef, FieldType.isReference]
    first | (intro acts; rw [hr _ acts rfl rfl rfl]) | rw [hr _ _ rfl rfl rfl]
    exact Steps.refl _
  · show Q1_w_AND_BOTH_PERMIT_w_INDETERMINATE_w_DENY Z w_AND_BOTH_PERMIT w_INDETERMINATE w_DENY w_PERMIT h0 n0 _ T3.heap _
    rw [e3]
    exact ⟨rfl, N1, rfl⟩
set_option maxRecDepth 65536 in
set_option maxHeartbeats 40000000 in
theorem pc0_k221 {p : Program} {l : Launch} {e : Env} {s : State} {m : MethodId} {args : Array Value} {below : List Frame} {meth : Method} {c : Code} {T0 : State} {locs : List Loc} {Z : State} {a0 : Array Value} {h0 : Heap} {n0 : Nat} (p1 : Int32) (p2 : Int32) (p3 : Int32) (b1 : Addr) (b8 : Addr) (b15 : Addr) (k1 : ClassId) (w_CHILD_OVERRIDES : Addr) (w_PARENT_OVERRIDES : Addr) (w_AND_BOTH_PERMIT : Addr) (k8 : ClassId) (w_PERMIT : Addr) (w_DENY : Addr) (w_INDETERMINATE : Addr) (k15 : ClassId)
    (X0 : Stand p l e room_1 s m args below meth c T0 locs 3 33) (hx : p.tables.exec = Jvm.exec) (hZ : Z.Warmed39 s.vm) (hw : ∀ d ∈ tables_1, d.before a0 Z = true) (hby : c.code = code) (hml : c.maxLocals = 10) (hown : s.vm.findClass "com/example/tributary/tributary/InheritanceTypeCombinePinLaw" = some m.cls) (e0 : T0.heap = h0) (Z0 : n0 ≤ h0.size) (N0 : Fr n0 locs) (V_b1 : Arv Z h0 b1 k1 (.object "com/example/tributary/tributary/AccessList$InheritanceType") (3 : Int32) [(.ref w_CHILD_OVERRIDES), (.ref w_PARENT_OVERRIDES), (.ref w_AND_BOTH_PERMIT)] .null) (V_b8 : Arv Z h0 b8 k8 (.object "com/example/tributary/tributary/AccessList$Decision") (3 : Int32) [(.ref w_PERMIT), (.ref w_DENY), (.ref w_INDETERMINATE)] .null) (F_ordinal_w_AND_BOTH_PERMIT : Fld Z h0 w_AND_BOTH_PERMIT "java/lang/Enum" "ordinal" "I" (.int 2)) (E_w_AND_BOTH_PERMIT : Exa Z h0 w_AND_BOTH_PERMIT "com/example/tributary/tributary/AccessList$InheritanceType") (S_PERMIT : Sta Z h0 "com/example/tributary/tributary/AccessList$Decision" "PERMIT" "Lcom/example/tributary/tributary/AccessList$Decision;" (.ref w_PERMIT)) (n_w_INDETERMINATE_w_PERMIT : ¬ (w_INDETERMINATE = w_PERMIT)) (S_DENY : Sta Z h0 "com/example/tributary/tributary/AccessList$Decision" "DENY" "Lcom/example/tributary/tributary/AccessList$Decision;" (.ref w_DENY)) (V_b15 : Arv Z h0 b15 k15 .int (27 : Int32) [(.int 0), (.int 1), (.int 0), (.int 0), (.int 1), (.int 1), (.int 0), (.int 1), (.int 2), (.int 0), (.int 0), (.int 0), (.int 1), (.int 1), (.int 1), (.int 0), (.int 1), (.int 2), (.int 0), (.int 1), (.int 1), (.int 1), (.int 1), (.int 1), (.int 1), (.int 1), (.int 1)] (.int (0 : Int32))) :
    ∃ (T' : State) (L' : List Loc) (Ls : Array Slot), Stand p l e room_1 s m args below meth c T' L' 3 33 ∧ Fr n0 L' ∧ ∀ target, Steps p.tables e below (T'.setTop (mkF m 253 Ls [(.int 1)])) target → Steps p.tables e below (T0.setTop (mkF m 206 #[.val (.int p1), .val (.int p2), .val (.int p3), .val (.int 2), .val (.int 2), .val (.int 1), .val (.ref b1), .val (.ref b8), .val (.ref b15), .unset] [])) target := by
  obtain ⟨cq1, kq1, q1a, q1b, q1c⟩ := isOf hZ e0 E_w_AND_BOTH_PERMIT
  obtain ⟨_, _, ⟨T1, L1, k1, n1⟩, -, X1, ⟨Lc1, hQ1, l1, y1, z1⟩, st1⟩ := X0.virtualBack hx (y := (⟨"com/example/tributary/tributary/AccessList$InheritanceType", "combine", "(Lcom/example/tributary/tributary/AccessList$Decision;Lcom/example/tributary/tributary/AccessList$Decision;)Lcom/example/tributary/tributary/AccessList$Decision;"⟩ : MethodName)) (z := (⟨"com/example/tributary/tributary/AccessList$InheritanceType", "combine", "(Lcom/example/tributary/tributary/AccessList$Decision;Lcom/example/tributary/tributary/AccessList$Decision;)Lcom/example/tributary/tributary/AccessList$Decision;"⟩ : MethodName)) hown (mvT hZ (hw _ (List.mem_of_getElem? (i := 22) rfl))) (mvT hZ (hw _ (List.mem_of_getElem? (i := 23) rfl))) (notFace_of_selects (args := #[]) (mvT hZ (hw _ (List.mem_of_getElem? (i := 25) rfl)))) (mvT hZ (hw _ (List.mem_of_getElem? (i := 25) rfl))) (mvT hZ (hw _ (List.mem_of_getElem? (i := 24) rfl))) (by decide) (backOf (W := 0) (rm1_w_AND_BOTH_PERMIT_w_INDETERMINATE_w_DENY l Z a0 hw [] w_AND_BOTH_PERMIT w_INDETERMINATE w_DENY w_PERMIT h0 n0 Z0 F_ordinal_w_AND_BOTH_PERMIT E_w_AND_BOTH_PERMIT S_PERMIT n_w_INDETERMINATE_w_PERMIT S_DENY) hZ (hw _ (List.mem_of_getElem? (i := 26) rfl)) (hw _ (List.mem_of_getElem? (i := 4) rfl)) (by decide) (by decide)) q1a q1c (g := (mkF m 220 #[.val (.int p1), .val (.int p2), .val (.int p3), .val (.int 2), .val (.int 2), .val (.int 1), .val (.ref b1), .val (.ref b8), .val (.ref b15), .unset] [(.ref w_DENY), (.ref w_INDETERMINATE), (.ref w_AND_BOTH_PERMIT)])) rfl (by rw [hml]; rfl) (Steps.refl _) (argsL := [(.ref w_INDETERMINATE), (.ref w_DENY)]) (rest := []) (lenOf pd__Lcom_example_tributary_tributary_AccessList_Decision_Lcom_example_tributary_tributary_AccessList_Decision__Lcom_example_tributary_tributary_AccessList_Decision_ rfl) rfl (by show 2 * 0 + _ ≤ _; exact Nat.le_of_eq rfl) (hb hby at_220) (fun _ _ => ⟨rfl, e0, (by decide : 3 + 0 ≤ _), (by decide : 33 + 0 ≤ _)⟩)
  dsimp only [Pt.U, Pt.locs, Pt.cells, Pt.slots] at X1 l1 y1 z1 st1 hQ1
  subst l1 y1 z1
  obtain ⟨rfl, N1q, e1⟩ := hQ1
  have N1 := Fr.app N0 N1q
  refine ⟨T1, _, #[.val (.int p1), .val (.int p2), .val (.int p3), .val (.int 2), .val (.int 2), .val (.int 1), .val (.ref b1), .val (.ref b8), .val (.ref b15), .val (.ref w_DENY)], X1, N1, fun target kt => ?_⟩
  show Steps p.tables e below (T0.setTop (mkF m 206 #[.val (.int p1), .val (.int p2), .val (.int p3), .val (.int 2), .val (.int 2), .val (.int 1), .val (.ref b1), .val (.ref b8), .val (.ref b15), .unset] [])) _
  refine XS.aload X0.here hx rfl (hb hby at_206) rfl rfl ?_
  show Steps p.tables e below (T0.setTop (mkF m 208 #[.val (.int p1), .val (.int p2), .val (.int p3), .val (.int 2), .val (.int 2), .val (.int 1), .val (.ref b1), .val (.ref b8), .val (.ref b15), .unset] [(.ref b1)])) _
  refine XS.iloadN X0.here hx rfl (hb hby at_208) rfl ?_
  show Steps p.tables e below (T0.setTop (mkF m 209 #[.val (.int p1), .val (.int p2), .val (.int p3), .val (.int 2), .val (.int 2), .val (.int 1), .val (.ref b1), .val (.ref b8), .val (.ref b15), .unset] [(.int 2), (.ref b1)])) _
  refine own_ldR X0 hx hZ e0 V_b1 (j := (2 : Int32)) ⟨by decide, by decide⟩ rfl (g := (mkF m 209 #[.val (.int p1), .val (.int p2), .val (.int p3), .val (.int 2), .val (.int 2), .val (.int 1), .val (.ref b1), .val (.ref b8), .val (.ref b15), .unset] [(.int 2), (.ref b1)])) rfl rfl (hb hby at_209) _ ?_
  show Steps p.tables e below (T0.setTop (mkF m 210 #[.val (.int p1), .val (.int p2), .val (.int p3), .val (.int 2), .val (.int 2), .val (.int 1), .val (.ref b1), .val (.ref b8), .val (.ref b15), .unset] [(.ref w_AND_BOTH_PERMIT)])) _
  refine XS.aload X0.here hx rfl (hb hby at_210) rfl rfl ?_
  show Steps p.tables e below (T0.setTop (mkF m 212 #[.val (.int p1), .val (.int p2), .val (.int p3), .val (.int 2), .val (.int 2), .val (.int 1), .val (.ref b1), .val (.ref b8), .val (.ref b15), .unset] [(.ref b8), (.ref w_AND_BOTH_PERMIT)])) _
  refine XS.iload X0.here hx rfl (hb hby at_212) rfl ?_
  show Steps p.tables e below (T0.setTop (mkF m 214 #[.val (.int p1), .val (.int p2), .val (.int p3), .val (.int 2), .val (.int 2), .val (.int 1), .val (.ref b1), .val (.ref b8), .val (.ref b15), .unset] [(.int 2), (.ref b8), (.ref w_AND_BOTH_PERMIT)])) _
  refine own_ldR X0 hx hZ e0 V_b8 (j := (2 : Int32)) ⟨by decide, by decide⟩ rfl (g := (mkF m 214 #[.val (.int p1), .val (.int p2), .val (.int p3), .val (.int 2), .val (.int 2), .val (.int 1), .val (.ref b1), .val (.ref b8), .val (.ref b15), .unset] [(.int 2), (.ref b8), (.ref w_AND_BOTH_PERMIT)])) rfl rfl (hb hby at_214) _ ?_
  show Steps p.tables e below (T0.setTop (mkF m 215 #[.val (.int p1), .val (.int p2), .val (.int p3), .val (.int 2), .val (.int 2), .val (.int 1), .val (.ref b1), .val (.ref b8), .val (.ref b15), .unset] [(.ref w_INDETERMINATE), (.ref w_AND_BOTH_PERMIT)])) _
  refine XS.aload X0.here hx rfl (hb hby at_215) rfl rfl ?_
  show Steps p.tables e below (T0.setTop (mkF m 217 #[.val (.int p1), .val (.int p2), .val (.int p3), .val (.int 2), .val (.int 2), .val (.int 1), .val (.ref b1), .val (.ref b8), .val (.ref b15), .unset] [(.ref b8), (.ref w_INDETERMINATE), (.ref w_AND_BOTH_PERMIT)])) _
  refine XS.iload X0.here hx rfl (hb hby at_217) rfl ?_
  show Steps p.tables e below (T0.setTop (mkF m 219 #[.val (.int p1), .val (.int p2), .val (.int p3), .val (.int 2), .val (.int 2), .val (.int 1), .val (.ref b1), .val (.ref b8), .val (.ref b15), .unset] [(.int 1), (.ref b8), (.ref w_INDETERMINATE), (.ref w_AND_BOTH_PERMIT)])) _
  refine own_ldR X0 hx hZ e0 V_b8 (j := (1 : Int32)) ⟨by decide, by decide⟩ rfl (g := (mkF m 219 #[.val (.int p1), .val (.int p2), .val (.int p3), .val (.int 2), .val (.int 2), .val (.int 1), .val (.ref b1), .val (.ref b8), .val (.ref b15), .unset] [(.int 1), (.ref b8), (.ref w_INDETERMINATE), (.ref w_AND_BOTH_PERMIT)])) rfl rfl (hb hby at_219) _ ?_
  show Steps p.tables e below (T0.setTop (mkF m 220 #[.val (.int p1), .val (.int p2), .val (.int p3), .val (.int 2), .val (.int 2), .val (.int 1), .val (.ref b1), .val (.ref b8), .val (.ref b15), .unset] [(.ref w_DENY), (.ref w_INDETERMINATE), (.ref w_AND_BOTH_PERMIT)])) _
  refine st1.trans ?_
  show Steps p.tables e below (T1.setTop (mkF m 223 #[.val (.int p1), .val (.int p2), .val (.int p3), .val (.int 2), .val (.int 2), .val (.int 1), .val (.ref b1), .val (.ref b8), .val (.ref b15), .unset] [(.ref w_DENY)])) _
  refine XS.astore X1.here hx rfl (hb hby at_223) rfl rfl (l' := #[.val (.int p1), .val (.int p2), .val (.int p3), .val (.int 2), .val (.int 2), .val (.int 1), .val (.ref b1), .val (.ref b8), .val (.ref b15), .val (.ref w_DENY)]) rfl ?_
  show Steps p.tables e below (T1.setTop (mkF m 225 #[.val (.int p1), .val (.int p2), .val (.int p3), .val (.int 2), .val (.int 2), .val (.int 1), .val (.ref b1), .val (.ref b8), .val (.ref b15), .val (.ref w_DENY)] [])) _
  refine XS.aload X1.here hx rfl (hb hby at_225) rfl rfl ?_
  show Steps p.tables e below (T1.setTop (mkF m 227 #[.val (.int p1), .val (.int p2), .val (.int p3), .val (.int 2), .val (.int 2), .val (.int 1), .val (.ref b1), .val (.ref b8), .val (.ref b15), .val (.ref w_DENY)] [(.ref w_DENY)])) _
  refine XS.aload X1.here hx rfl (hb hby at_227) rfl rfl ?_
  show Steps p.tables e below (T1.setTop (mkF m 229 #[.val (.int p1), .val (.int p2), .val (.int p3), .val (.int 2), .val (.int 2), .val (.int 1), .val (.ref b1), .val (.ref b8), .val (.ref b15), .val (.ref w_DENY)] [(.ref b8), (.ref w_DENY)])) _
  refine XS.aload X1.here hx rfl (hb hby at_229) rfl rfl ?_
  show Steps p.tables e below (T1.setTop (mkF m 231 #[.val (.int p1), .val (.int p2), .val (.int p3), .val (.int 2), .val (.int 2), .val (.int 1), .val (.ref b1), .val (.ref b8), .val (.ref b15), .val (.ref w_DENY)] [(.ref b15), (.ref b8), (.ref w_DENY)])) _
  refine XS.iloadN X1.here hx rfl (hb hby at_231) rfl ?_
  show Steps p.tables e below (T1.setTop (mkF m 232 #[.val (.int p1), .val (.int p2), .val (.int p3), .val (.int 2), .val (.int 2), .val (.int 1), .val (.ref b1), .val (.ref b8), .val (.ref b15), .val (.ref w_DENY)] [(.int 2), (.ref b15), (.ref b8), (.ref w_DENY)])) _
  refine XS.bipush X1.here hx rfl (hb hby at_232) ?_
  show Steps p.tables e below (T1.setTop (mkF m 234 #[.val (.int p1), .val (.int p2), .val (.int p3), .val (.int 2), .val (.int 2), .val (.int 1), .val (.ref b1), .val (.ref b8), .val (.ref b15), .val (.ref w_DENY)] [(.int 9), (.int 2), (.ref b15), (.ref b8), (.ref w_DENY)])) _
  refine XS.imul X1.here hx rfl (hb hby at_234) rfl ?_
  show Steps p.tables e below (T1.setTop (mkF m 235 #[.val (.int p1), .val (.int p2), .val (.int p3), .val (.int 2), .val (.int 2), .val (.int 1), .val (.ref b1), .val (.ref b8), .val (.ref b15), .val (.ref w_DENY)] [(.int ((2 : Int32) * (9 : Int32))), (.ref b15), (.ref b8), (.ref w_DENY)])) _
  rw [(by decide : ((2 : Int32) * (9 : Int32)) = (18 : Int32))]
  show Steps p.tables e below (T1.setTop (mkF m 235 #[.val (.int p1), .val (.int p2), .val (.int p3), .val (.int 2), .val (.int 2), .val (.int 1), .val (.ref b1), .val (.ref b8), .val (.ref b15), .val (.ref w_DENY)] [(.int 18), (.ref b15), (.ref b8), (.ref w_DENY)])) _
  refine XS.iload X1.here hx rfl (hb hby at_235) rfl ?_
  show Steps p.tables e below (T1.setTop (mkF m 237 #[.val (.int p1), .val (.int p2), .val (.int p3), .val (.int 2), .val (.int 2), .val (.int 1), .val (.ref b1), .val (.ref b8), .val (.ref b15), .val (.ref w_DENY)] [(.int 2), (.int 18), (.ref b15), (.ref b8), (.ref w_DENY)])) _
  refine XS.iconst X1.here hx rfl (hb hby at_237) ?_
  show Steps p.tables e below (T1.setTop (mkF m 238 #[.val (.int p1), .val (.int p2), .val (.int p3), .val (.int 2), .val (.int 2), .val (.int 1), .val (.ref b1), .val (.ref b8), .val (.ref b15), .val (.ref w_DENY)] [(.int 3), (.int 2), (.int 18), (.ref b15), (.ref b8), (.ref w_DENY)])) _
  refine XS.imul X1.here hx rfl (hb hby at_238) rfl ?_
  show Steps p.tables e below (T1.setTop (mkF m 239 #[.val (.int p1), .val (.int p2), .val (.int p3), .val (.int 2), .val (.int 2), .val (.int 1), .val (.ref b1), .val (.ref b8), .val (.ref b15), .val (.ref w_DENY)] [(.int ((2 : Int32) * (3 : Int32))), (.int 18), (.ref b15), (.ref b8), (.ref w_DENY)])) _
  rw [(by decide : ((2 : Int32) * (3 : Int32)) = (6 : Int32))]
  show Steps p.tables e below (T1.setTop (mkF m 239 #[.val (.int p1), .val (.int p2), .val (.int p3), .val (.int 2), .val (.int 2), .val (.int 1), .val (.ref b1), .val (.ref b8), .val (.ref b15), .val (.ref w_DENY)] [(.int 6), (.int 18), (.ref b15), (.ref b8), (.ref w_DENY)])) _
  refine XS.iadd X1.here hx rfl (hb hby at_239) rfl ?_
  show Steps p.tables e below (T1.setTop (mkF m 240 #[.val (.int p1), .val (.int p2), .val (.int p3), .val (.int 2), .val (.int 2), .val (.int 1), .val (.ref b1), .val (.ref b8), .val (.ref b15), .val (.ref w_DENY)] [(.int ((18 : Int32) + (6 : Int32))), (.ref b15), (.ref b8), (.ref w_DENY)])) _
  rw [(by decide : ((18 : Int32) + (6 : Int32)) = (24 : Int32))]
  show Steps p.tables e below (T1.setTop (mkF m 240 #[.val (.int p1), .val (.int p2), .val (.int p3), .val (.int 2), .val (.int 2), .val (.int 1), .val (.ref b1), .val (.ref b8), .val (.ref b15), .val (.ref w_DENY)] [(.int 24), (.ref b15), (.ref b8), (.ref w_DENY)])) _
  refine XS.iload X1.here hx rfl (hb hby at_240) rfl ?_
  show Steps p.tables e below (T1.setTop (mkF m 242 #[.val (.int p1), .val (.int p2), .val (.int p3), .val (.int 2), .val (.int 2), .val (.int 1), .val (.ref b1), .val (.ref b8), .val (.ref b15), .val (.ref w_DENY)] [(.int 1), (.int 24), (.ref b15), (.ref b8), (.ref w_DENY)])) _
  refine XS.iadd X1.here hx rfl (hb hby at_242) rfl ?_
  show Steps p.tables e below (T1.setTop (mkF m 243 #[.val (.int p1), .val (.int p2), .val (.int p3), .val (.int 2), .val (.int 2), .val (.int 1), .val (.ref b1), .val (.ref b8), .val (.ref b15), .val (.ref w_DENY)] [(.int ((24 : Int32) + (1 : Int32))), (.ref b15), (.ref b8), (.ref w_DENY)])) _
  rw [(by decide : ((24 : Int32) + (1 : Int32)) = (25 : Int32))]
  show Steps p.tables e below (T1.setTop (mkF m 243 #[.val (.int p1), .val (.int p2), .val (.int p3), .val (.int 2), .val (.int 2), .val (.int 1), .val (.ref b1), .val (.ref b8), .val (.ref b15), .val (.ref w_DENY)] [(.int 25), (.ref b15), (.ref b8), (.ref w_DENY)])) _
  refine own_ldI X1 hx hZ e1 V_b15 (j := (25 : Int32)) ⟨by decide, by decide⟩ rfl (g := (mkF m 243 #[.val (.int p1), .val (.int p2), .val (.int p3), .val (.int 2), .val (.int 2), .val (.int 1), .val (.ref b1), .val (.ref b8), .val (.ref b15), .val (.ref w_DENY)] [(.int 25), (.ref b15), (.ref b8), (.ref w_DENY)])) rfl rfl (hb hby at_243) _ ?_
  show Steps p.tables e below (T1.setTop (mkF m 244 #[.val (.int p1), .val (.int p2), .val (.int p3), .val (.int 2), .val (.int 2), .val (.int 1), .val (.ref b1), .val (.ref b8), .val (.ref b15), .val (.ref w_DENY)] [(.int 1), (.ref b8), (.ref w_DENY)])) _
  refine own_ldR X1 hx hZ e1 V_b8 (j := (1 : Int32)) ⟨by decide, by decide⟩ rfl (g := (mkF m 244 #[.val (.int p1), .val (.int p2), .val (.int p3), .val (.int 2), .val (.int 2), .val (.int 1), .val (.ref b1), .val (.ref b8), .val (.ref b15), .val (.ref w_DENY)] [(.int 1), (.ref b8), (.ref w_DENY)])) rfl rfl (hb hby at_244) _ ?_
  show Steps p.tables e below (T1.setTop (mkF m 245 #[.val (.int p1), .val (.int p2), .val (.int p3), .val (.int 2), .val (.int 2), .val (.int 1), .val (.ref b1), .val (.ref b8), .val (.ref b15), .val (.ref w_DENY)] [(.ref w_DENY), (.ref w_DENY)])) _
  refine Jvm.RoadKit.acmp (g := (mkF m 245 #[.val (.int p1), .val (.int p2), .val (.int p3), .val (.int 2), .val (.int 2), .val (.int 1), .val (.ref b1), .val (.ref b8), .val (.ref b15), .val (.ref w_DENY)] [(.ref w_DENY), (.ref w_DENY)])) X1 hx rfl rfl rfl (pc0 := 245) (pc' := 248) (same := true) rfl (hb hby at_245) rfl (decide_eq_true rfl) (by decide) (by decide) ?_
  show Steps p.tables e below (T1.setTop (mkF m 248 #[.val (.int p1), .val (.int p2), .val (.int p3), .val (.int 2), .val (.int 2), .val (.int 1), .val (.ref b1), .val (.ref b8), .val (.ref b15), .val (.ref w_DENY)] [])) _
  refine XS.iconst X1.here hx rfl (hb hby at_248) ?_
  show Steps p.tables e below (T1.setTop (mkF m 249 #[.val (.int p1), .val (.int p2), .val (.int p3), .val (.int 2), .val (.int 2), .val (.int 1), .val (.ref b1), .val (.ref b8), .val (.ref b15), .val (.ref w_DENY)] [(.int 1)])) _
  refine XS.goto X1.here hx rfl (pc0 := 249) (pc' := 253) rfl (hb hby at_249) (by decide) (by decide) ?_
  show Steps p.tables e below (T1.setTop (mkF m 253 #[.val (.int p1), .val (.int p2), .val (.int p3), .val (.int 2), .val (.int 2), .val (.int 1), .val (.ref b1), .val (.ref b8), .val (.ref b15), .val (.ref w_DENY)] [(.int 1)])) _
  exact kt
def Q1_w_AND_BOTH_PERMIT_w_INDETERMINATE_w_INDETERMINATE (Z : State) (w_AND_BOTH_PERMIT : Addr) (w_INDETERMINATE : Addr) (w_PERMIT : Addr) (w_DENY : Addr) (h0 : Heap) (n0 : Nat) (v : Option Value) (h : Heap) (L : List Loc) : Prop := v = some (.ref w_DENY) ∧ Fr n0 L ∧ h = h0
set_option maxRecDepth 65536 in
set_option maxHeartbeats 40000000 in
theorem rm1_w_AND_BOTH_PERMIT_w_INDETERMINATE_w_INDETERMINATE (l : Launch) (Z : State) (a0 : Array Value) (hw : ∀ d ∈ tables_1, d.before a0 Z = true) (ws : List Jvm.Cond) (w_AND_BOTH_PERMIT : Addr) (w_INDETERMINATE : Addr) (w_PERMIT : Addr) (w_DENY : Addr) (h0 : Heap) (n0 : Nat) (Z0 : n0 ≤ h0.size) (F_ordinal_w_AND_BOTH_PERMIT : Fld Z h0 w_AND_BOTH_PERMIT "java/lang/Enum" "ordinal" "I" (.int 2)) (E_w_AND_BOTH_PERMIT : Exa Z h0 w_AND_BOTH_PERMIT "com/example/tributary/tributary/AccessList$InheritanceType") (S_PERMIT : Sta Z h0 "com/example/tributary/tributary/AccessList$Decision" "PERMIT" "Lcom/example/tributary/tributary/AccessList$Decision;" (.ref w_PERMIT)) (n_w_INDETERMINATE_w_PERMIT : ¬ (w_INDETERMINATE = w_PERMIT)) (S_DENY : Sta Z h0 "com/example/tributary/tributary/AccessList$Decision" "DENY" "Lcom/example/tributary/tributary/AccessList$Decision;" (.ref w_DENY)) :
    MetFree l (⟨"com/example/tributary/tributary/AccessList$InheritanceType", "combine", "(Lcom/example/tributary/tributary/AccessList$Decision;Lcom/example/tributary/tributary/AccessList$Decision;)Lcom/example/tributary/tributary/AccessList$Decision;"⟩ : MethodName) (head1 (Jvm.Cond.code (⟨"com/example/tributary/tributary/AccessList$InheritanceType", "combine", "(Lcom/example/tributary/tributary/AccessList$Decision;Lcom/example/tributary/tributary/AccessList$Decision;)Lcom/example/tributary/tributary/AccessList$Decision;"⟩ : MethodName) prog_6_method_4_code 3 (some (.object "com/example/tributary/tributary/AccessList$Decision")) :: ws) ({ frames := 1, cells := 0, slots := 0, locals := 12 } : Room)) (fun a U => a = #[(.ref w_AND_BOTH_PERMIT), (.ref w_INDETERMINATE), (.ref w_INDETERMINATE)] ∧ Z.Warmed39 U.vm ∧ U.heap = h0) (fun _ _ _ _ _ => True) (fun _ U o U' => ∃ v L, o = .returned v ∧ Q1_w_AND_BOTH_PERMIT_w_INDETERMINATE_w_INDETERMINATE Z w_AND_BOTH_PERMIT w_INDETERMINATE w_PERMIT w_DENY h0 n0 v U'.heap L ∧ FrameEnd U o U' L ({ frames := 1, cells := 0, slots := 0, locals := 12 } : Room).cells ({ frames := 1, cells := 0, slots := 0, locals := 12 } : Room).slots) := by
  refine MetFree.of_bodySF (plainFor_of_name pn_1) hisR ?_
  intro p e s m args below meth c s₁ Bd hml0 hP hK
  obtain ⟨rfl, hZ, hh⟩ := hP
  have hx := Bd.exec
  have hby := Bd.bytes
  have hml : c.maxLocals = 3 := hml0
  have hown : s.vm.findClass "com/example/tributary/tributary/AccessList$InheritanceType" = some m.cls := findClass_of_methodNamed Bd.named
  have hnm := (name_of_methodNamed Bd.named Bd.method).1
  have X0 : Stand p l e ({ frames := 1, cells := 0, slots := 0, locals := 12 } : Room) s m #[(.ref w_AND_BOTH_PERMIT), (.ref w_INDETERMINATE), (.ref w_INDETERMINATE)] below meth c s₁ [] 0 0 := Stand.of_body Bd
  have e0 : s₁.heap = h0 := by rw [← hh, Bd.state]; rfl
  have N0 := Fr.nil n0
  have pre0 : ∀ t, Steps p.tables e below (s₁.setTop (mkF m 0 #[.val (.ref w_AND_BOTH_PERMIT), .val (.ref w_INDETERMINATE), .val (.ref w_INDETERMINATE)] [])) t → Steps p.tables e below (s₁.setTop (entryFrame m #[(.ref w_AND_BOTH_PERMIT), (.ref w_INDETERMINATE), (.ref w_INDETERMINATE)] 3)) t := fun t k => castTop (by first | (simp [entryFrame, mkF, argsToLocals, Value.category]; done) | rfl) k
  obtain ⟨cq1, kq1, q1a, q1b, q1c⟩ := isOf hZ e0 E_w_AND_BOTH_PERMIT
  obtain ⟨_, _, ⟨T1, L1, k1, n1⟩, -, X1, ⟨Lc1, hQ1, l1, y1, z1⟩, st1⟩ := X0.virtualBackUp hx (x := (⟨"com/example/tributary/tributary/AccessList$InheritanceType", "ordinal", "()I"⟩ : MethodName)) (y := (⟨"java/lang/Enum", "ordinal", "()I"⟩ : MethodName)) (owner := "java/lang/Enum") hown (mvT hZ (hw _ (List.mem_of_getElem? (i := 27) rfl))) (mvT hZ (hw _ (List.mem_of_getElem? (i := 28) rfl))) (mvT hZ (hw _ (List.mem_of_getElem? (i := 29) rfl))) (by decide) (mvT hZ (hw _ (List.mem_of_getElem? (i := 31) rfl))) (mvT hZ (hw _ (List.mem_of_getElem? (i := 30) rfl))) (backOf (W := 0) (rm2_w_AND_BOTH_PERMIT l Z a0 hw [] w_AND_BOTH_PERMIT h0 n0 Z0 F_ordinal_w_AND_BOTH_PERMIT) hZ (hw _ (List.mem_of_getElem? (i := 33) rfl)) (hw _ (List.mem_of_getElem? (i := 32) rfl)) (by decide) (by decide)) q1a q1c (g := (mkF m 1 #[.val (.ref w_AND_BOTH_PERMIT), .val (.ref w_INDETERMINATE), .val (.ref w_INDETERMINATE)] [(.ref w_AND_BOTH_PERMIT)])) rfl (by rw [hml]; rfl) (Steps.refl _) (argsL := []) (rest := []) (lenOf pd___I rfl) rfl (by show 2 * 0 + _ ≤ _; exact Nat.le_of_eq rfl) (hb hby d1_1) (fun _ _ => ⟨rfl, e0, (by decide : 0 + 0 ≤ _), (by decide : 0 + 0 ≤ _)⟩)
  dsimp only [Pt.U, Pt.locs, Pt.cells, Pt.slots] at X1 l1 y1 z1 st1 hQ1
  subst l1 y1 z1
  obtain ⟨rfl, N1q, e1⟩ := hQ1
  have N1 := Fr.app N0 N1q
  obtain ⟨T2, X2, e2, st2⟩ := getS2 X1 hx hZ hown (host := "") (Or.inl (hw _ (List.mem_of_getElem? (i := 37) rfl))) Via.refl e1 S_PERMIT (g := (mkF m 77 #[.val (.ref w_AND_BOTH_PERMIT), .val (.ref w_INDETERMINATE), .val (.ref w_INDETERMINATE)] [(.ref w_INDETERMINATE)])) rfl (hb hby d1_77)
  obtain ⟨T3, X3, e3, st3⟩ := getS2 X2 hx hZ hown (host := "") (Or.inl (hw _ (List.mem_of_getElem? (i := 38) rfl))) Via.refl e2 S_DENY (g := (mkF m 96 #[.val (.ref w_AND_BOTH_PERMIT), .val (.ref w_INDETERMINATE), .val (.ref w_INDETERMINATE)] [])) rfl (hb hby d1_96)
  obtain ⟨fs, hr, hrun, hended, hW, hsame⟩ := X3.leave (v := some (.ref w_DENY)) (fun h => by rw [Bd.returns] at h; cases h)
  refine ⟨_, _, pre0 _ ?_, hrun, hended, _, _, rfl, ?_, ⟨_, rfl⟩, hW, hsame.mono (by decide) (by decide)⟩
  · show Steps p.tables e below (s₁.setTop (mkF m 0 #[.val (.ref w_AND_BOTH_PERMIT), .val (.ref w_INDETERMINATE), .val (.ref w_INDETERMINATE)] [])) _
    refine XS.aloadN X0.here hx rfl (hb hby d1_0) rfl rfl ?_
    show Steps p.tables e below (s₁.setTop (mkF m 1 #[.val (.ref w_AND_BOTH_PERMIT), .val (.ref w_INDETERMINATE), .val (.ref w_INDETERMINATE)] [(.ref w_AND_BOTH_PERMIT)])) _
    refine st1.trans ?_
    show Steps p.tables e below (T1.setTop (mkF m 4 #[.val (.ref w_AND_BOTH_PERMIT), .val (.ref w_INDETERMINATE), .val (.ref w_INDETERMINATE)] [(.int 2)])) _
    refine XS.tswIn X1.here hx rfl (pc0 := 4) (pc' := 76) rfl (hb hby d1_4) rfl (by decide) (o := 72) (by decide) (by decide) (by decide) ?_
    show Steps p.tables e below (T1.setTop (mkF m 76 #[.val (.ref w_AND_BOTH_PERMIT), .val (.ref w_INDETERMINATE), .val (.ref w_INDETERMINATE)] [])) _
    refine XS.aloadN X1.here hx rfl (hb hby d1_76) rfl rfl ?_
    show Steps p.tables e below (T1.setTop (mkF m 77 #[.val (.ref w_AND_BOTH_PERMIT), .val (.ref w_INDETERMINATE), .val (.ref w_INDETERMINATE)] [(.ref w_INDETERMINATE)])) _
    refine st2 _ ?_
    show Steps p.tables e below (T2.setTop (mkF m 80 #[.val (.ref w_AND_BOTH_PERMIT), .val (.ref w_INDETERMINATE), .val (.ref w_INDETERMINATE)] [(.ref w_PERMIT), (.ref w_INDETERMINATE)])) _
    refine Jvm.RoadKit.acmp (g := (mkF m 80 #[.val (.ref w_AND_BOTH_PERMIT), .val (.ref w_INDETERMINATE), .val (.ref w_INDETERMINATE)] [(.ref w_PERMIT), (.ref w_INDETERMINATE)])) X2 hx rfl rfl rfl (pc0 := 80) (pc' := 96) (same := false) rfl (hb hby d1_80) rfl (decide_eq_false fun q => n_w_INDETERMINATE_w_PERMIT (Value.ref.inj q)) (by decide) (by decide) ?_
    show Steps p.tables e below (T2.setTop (mkF m 96 #[.val (.ref w_AND_BOTH_PERMIT), .val (.ref w_INDETERMINATE), .val (.ref w_INDETERMINATE)] [])) _
    refine st3 _ ?_
    show Steps p.tables e below (T3.setTop (mkF m 99 #[.val (.ref w_AND_BOTH_PERMIT), .val (.ref w_INDETERMINATE), .val (.ref w_INDETERMINATE)] [(.ref w_DENY)])) _
    refine XS.goto X3.here hx rfl (pc0 := 99) (pc' := 112) rfl (hb hby d1_99) (by decide) (by decide) ?_
    show Steps p.tables e below (T3.setTop (mkF m 112 #[.val (.ref w_AND_BOTH_PERMIT), .val (.ref w_INDETERMINATE), .val (.ref w_INDETERMINATE)] [(.ref w_DENY)])) _
    jvm_step X3.here [X3.here.top, hx, (hb hby d1_112), X3.method', Bd.returns, Value.isRef, FieldType.isReference]
    first | (intro acts; rw [hr _ acts rfl rfl rfl]) | rw [hr _ _ rfl rfl rfl]
    exact Steps.refl _
  · show Q1_w_AND_BOTH_PERMIT_w_INDETERMINATE_w_INDETERMINATE Z w_AND_BOTH_PERMIT w_INDETERMINATE w_PERMIT w_DENY h0 n0 _ T3.heap _
    rw [e3]
    exact ⟨rfl, N1, rfl⟩
set_option maxRecDepth 65536 in
set_option maxHeartbeats 40000000 in
theorem pc0_k222 {p : Program} {l : Launch} {e : Env} {s : State} {m : MethodId} {args : Array Value} {below : List Frame} {meth : Method} {c : Code} {T0 : State} {locs : List Loc} {Z : State} {a0 : Array Value} {h0 : Heap} {n0 : Nat} (p1 : Int32) (p2 : Int32) (p3 : Int32) (b1 : Addr) (b8 : Addr) (b15 : Addr) (k1 : ClassId) (w_CHILD_OVERRIDES : Addr) (w_PARENT_OVERRIDES : Addr) (w_AND_BOTH_PERMIT : Addr) (k8 : ClassId) (w_PERMIT : Addr) (w_DENY : Addr) (w_INDETERMINATE : Addr) (k15 : ClassId)
    (X0 : Stand p l e room_1 s m args below meth c T0 locs 3 33) (hx : p.tables.exec = Jvm.exec) (hZ : Z.Warmed39 s.vm) (hw : ∀ d ∈ tables_1, d.before a0 Z = true) (hby : c.code = code) (hml : c.maxLocals = 10) (hown : s.vm.findClass "com/example/tributary/tributary/InheritanceTypeCombinePinLaw" = some m.cls) (e0 : T0.heap = h0) (Z0 : n0 ≤ h0.size) (N0 : Fr n0 locs) (V_b1 : Arv Z h0 b1 k1 (.object "com/example/tributary/tributary/AccessList$InheritanceType") (3 : Int32) [(.ref w_CHILD_OVERRIDES), (.ref w_PARENT_OVERRIDES), (.ref w_AND_BOTH_PERMIT)] .null) (V_b8 : Arv Z h0 b8 k8 (.object "com/example/tributary/tributary/AccessList$Decision") (3 : Int32) [(.ref w_PERMIT), (.ref w_DENY), (.ref w_INDETERMINATE)] .null) (F_ordinal_w_AND_BOTH_PERMIT : Fld Z h0 w_AND_BOTH_PERMIT "java/lang/Enum" "ordinal" "I" (.int 2)) (E_w_AND_BOTH_PERMIT : Exa Z h0 w_AND_BOTH_PERMIT "com/example/tributary/tributary/AccessList$InheritanceType") (S_PERMIT : Sta Z h0 "com/example/tributary/tributary/AccessList$Decision" "PERMIT" "Lcom/example/tributary/tributary/AccessList$Decision;" (.ref w_PERMIT)) (n_w_INDETERMINATE_w_PERMIT : ¬ (w_INDETERMINATE = w_PERMIT)) (S_DENY : Sta Z h0 "com/example/tributary/tributary/AccessList$Decision" "DENY" "Lcom/example/tributary/tributary/AccessList$Decision;" (.ref w_DENY)) (V_b15 : Arv Z h0 b15 k15 .int (27 : Int32) [(.int 0), (.int 1), (.int 0), (.int 0), (.int 1), (.int 1), (.int 0), (.int 1), (.int 2), (.int 0), (.int 0), (.int 0), (.int 1), (.int 1), (.int 1), (.int 0), (.int 1), (.int 2), (.int 0), (.int 1), (.int 1), (.int 1), (.int 1), (.int 1), (.int 1), (.int 1), (.int 1)] (.int (0 : Int32))) :
    ∃ (T' : State) (L' : List Loc) (Ls : Array Slot), Stand p l e room_1 s m args below meth c T' L' 3 33 ∧ Fr n0 L' ∧ ∀ target, Steps p.tables e below (T'.setTop (mkF m 253 Ls [(.int 1)])) target → Steps p.tables e below (T0.setTop (mkF m 206 #[.val (.int p1), .val (.int p2), .val (.int p3), .val (.int 2), .val (.int 2), .val (.int 2), .val (.ref b1), .val (.ref b8), .val (.ref b15), .unset] [])) target := by
  obtain ⟨cq1, kq1, q1a, q1b, q1c⟩ := isOf hZ e0 E_w_AND_BOTH_PERMIT
  obtain ⟨_, _, ⟨T1, L1, k1, n1⟩, -, X1, ⟨Lc1, hQ1, l1, y1, z1⟩, st1⟩ := X0.virtualBack hx (y := (⟨"com/example/tributary/tributary/AccessList$InheritanceType", "combine", "(Lcom/example/tributary/tributary/AccessList$Decision;Lcom/example/tributary/tributary/AccessList$Decision;)Lcom/example/tributary/tributary/AccessList$Decision;"⟩ : MethodName)) (z := (⟨"com/example/tributary/tributary/AccessList$InheritanceType", "combine", "(Lcom/example/tributary/tributary/AccessList$Decision;Lcom/example/tributary/tributary/AccessList$Decision;)Lcom/example/tributary/tributary/AccessList$Decision;"⟩ : MethodName)) hown (mvT hZ (hw _ (List.mem_of_getElem? (i := 22) rfl))) (mvT hZ (hw _ (List.mem_of_getElem? (i := 23) rfl))) (notFace_of_selects (args := #[]) (mvT hZ (hw _ (List.mem_of_getElem? (i := 25) rfl)))) (mvT hZ (hw _ (List.mem_of_getElem? (i := 25) rfl))) (mvT hZ (hw _ (List.mem_of_getElem? (i := 24) rfl))) (by decide) (backOf (W := 0) (rm1_w_AND_BOTH_PERMIT_w_INDETERMINATE_w_INDETERMINATE l Z a0 hw [] w_AND_BOTH_PERMIT w_INDETERMINATE w_PERMIT w_DENY h0 n0 Z0 F_ordinal_w_AND_BOTH_PERMIT E_w_AND_BOTH_PERMIT S_PERMIT n_w_INDETERMINATE_w_PERMIT S_DENY) hZ (hw _ (List.mem_of_getElem? (i := 26) rfl)) (hw _ (List.mem_of_getElem? (i := 4) rfl)) (by decide) (by decide)) q1a q1c (g := (mkF m 220 #[.val (.int p1), .val (.int p2), .val (.int p3), .val (.int 2), .val (.int 2), .val (.int 2), .val (.ref b1), .val (.ref b8), .val (.ref b15), .unset] [(.ref w_INDETERMINATE), (.ref w_INDETERMINATE), (.ref w_AND_BOTH_PERMIT)])) rfl (by rw [hml]; rfl) (Steps.refl _) (argsL := [(.ref w_INDETERMINATE), (.ref w_INDETERMINATE)]) (rest := []) (lenOf pd__Lcom_example_tributary_tributary_AccessList_Decision_Lcom_example_tributary_tributary_AccessList_Decision__Lcom_example_tributary_tributary_AccessList_Decision_ rfl) rfl (by show 2 * 0 + _ ≤ _; exact Nat.le_of_eq rfl) (hb hby at_220) (fun _ _ => ⟨rfl, e0, (by decide : 3 + 0 ≤ _), (by decide : 33 + 0 ≤ _)⟩)
  dsimp only [Pt.U, Pt.locs, Pt.cells, Pt.slots] at X1 l1 y1 z1 st1 hQ1
  subst l1 y1 z1
  obtain ⟨rfl, N1q, e1⟩ := hQ1
  have N1 := Fr.app N0 N1q
  refine ⟨T1, _, #[.val (.int p1), .val (.int p2), .val (.int p3), .val (.int 2), .val (.int 2), .val (.int 2), .val (.ref b1), .val (.ref b8), .val (.ref b15), .val (.ref w_DENY)], X1, N1, fun target kt => ?_⟩
  show Steps p.tables e below (T0.setTop (mkF m 206 #[.val (.int p1), .val (.int p2), .val (.int p3), .val (.int 2), .val (.int 2), .val (.int 2), .val (.ref b1), .val (.ref b8), .val (.ref b15), .unset] [])) _
  refine XS.aload X0.here hx rfl (hb hby at_206) rfl rfl ?_
  show Steps p.tables e below (T0.setTop (mkF m 208 #[.val (.int p1), .val (.int p2), .val (.int p3), .val (.int 2), .val (.int 2), .val (.int 2), .val (.ref b1), .val (.ref b8), .val (.ref b15), .unset] [(.ref b1)])) _
  refine XS.iloadN X0.here hx rfl (hb hby at_208) rfl ?_
  show Steps p.tables e below (T0.setTop (mkF m 209 #[.val (.int p1), .val (.int p2), .val (.int p3), .val (.int 2), .val (.int 2), .val (.int 2), .val (.ref b1), .val (.ref b8), .val (.ref b15), .unset] [(.int 2), (.ref b1)])) _
  refine own_ldR X0 hx hZ e0 V_b1 (j := (2 : Int32)) ⟨by decide, by decide⟩ rfl (g := (mkF m 209 #[.val (.int p1), .val (.int p2), .val (.int p3), .val (.int 2), .val (.int 2), .val (.int 2), .val (.ref b1), .val (.ref b8), .val (.ref b15), .unset] [(.int 2), (.ref b1)])) rfl rfl (hb hby at_209) _ ?_
  show Steps p.tables e below (T0.setTop (mkF m 210 #[.val (.int p1), .val (.int p2), .val (.int p3), .val (.int 2), .val (.int 2), .val (.int 2), .val (.ref b1), .val (.ref b8), .val (.ref b15), .unset] [(.ref w_AND_BOTH_PERMIT)])) _
  refine XS.aload X0.here hx rfl (hb hby at_210) rfl rfl ?_
  show Steps p.tables e below (T0.setTop (mkF m 212 #[.val (.int p1), .val (.int p2), .val (.int p3), .val (.int 2), .val (.int 2), .val (.int 2), .val (.ref b1), .val (.ref b8), .val (.ref b15), .unset] [(.ref b8), (.ref w_AND_BOTH_PERMIT)])) _
  refine XS.iload X0.here hx rfl (hb hby at_212) rfl ?_
  show Steps p.tables e below (T0.setTop (mkF m 214 #[.val (.int p1), .val (.int p2), .val (.int p3), .val (.int 2), .val (.int 2), .val (.int 2), .val (.ref b1), .val (.ref b8), .val (.ref b15), .unset] [(.int 2), (.ref b8), (.ref w_AND_BOTH_PERMIT)])) _
  refine own_ldR X0 hx hZ e0 V_b8 (j := (2 : Int32)) ⟨by decide, by decide⟩ rfl (g := (mkF m 214 #[.val (.int p1), .val (.int p2), .val (.int p3), .val (.int 2), .val (.int 2), .val (.int 2), .val (.ref b1), .val (.ref b8), .val (.ref b15), .unset] [(.int 2), (.ref b8), (.ref w_AND_BOTH_PERMIT)])) rfl rfl (hb hby at_214) _ ?_
  show Steps p.tables e below (T0.setTop (mkF m 215 #[.val (.int p1), .val (.int p2), .val (.int p3), .val (.int 2), .val (.int 2), .val (.int 2), .val (.ref b1), .val (.ref b8), .val (.ref b15), .unset] [(.ref w_INDETERMINATE), (.ref w_AND_BOTH_PERMIT)])) _
  refine XS.aload X0.here hx rfl (hb hby at_215) rfl rfl ?_
  show Steps p.tables e below (T0.setTop (mkF m 217 #[.val (.int p1), .val (.int p2), .val (.int p3), .val (.int 2), .val (.int 2), .val (.int 2), .val (.ref b1), .val (.ref b8), .val (.ref b15), .unset] [(.ref b8), (.ref w_INDETERMINATE), (.ref w_AND_BOTH_PERMIT)])) _
  refine XS.iload X0.here hx rfl (hb hby at_217) rfl ?_
  show Steps p.tables e below (T0.setTop (mkF m 219 #[.val (.int p1), .val (.int p2), .val (.int p3), .val (.int 2), .val (.int 2), .val (.int 2), .val (.ref b1), .val (.ref b8), .val (.ref b15), .unset] [(.int 2), (.ref b8), (.ref w_INDETERMINATE), (.ref w_AND_BOTH_PERMIT)])) _
  refine own_ldR X0 hx hZ e0 V_b8 (j := (2 : Int32)) ⟨by decide, by decide⟩ rfl (g := (mkF m 219 #[.val (.int p1), .val (.int p2), .val (.int p3), .val (.int 2), .val (.int 2), .val (.int 2), .val (.ref b1), .val (.ref b8), .val (.ref b15), .unset] [(.int 2), (.ref b8), (.ref w_INDETERMINATE), (.ref w_AND_BOTH_PERMIT)])) rfl rfl (hb hby at_219) _ ?_
  show Steps p.tables e below (T0.setTop (mkF m 220 #[.val (.int p1), .val (.int p2), .val (.int p3), .val (.int 2), .val (.int 2), .val (.int 2), .val (.ref b1), .val (.ref b8), .val (.ref b15), .unset] [(.ref w_INDETERMINATE), (.ref w_INDETERMINATE), (.ref w_AND_BOTH_PERMIT)])) _
  refine st1.trans ?_
  show Steps p.tables e below (T1.setTop (mkF m 223 #[.val (.int p1), .val (.int p2), .val (.int p3), .val (.int 2), .val (.int 2), .val (.int 2), .val (.ref b1), .val (.ref b8), .val (.ref b15), .unset] [(.ref w_DENY)])) _
  refine XS.astore X1.here hx rfl (hb hby at_223) rfl rfl (l' := #[.val (.int p1), .val (.int p2), .val (.int p3), .val (.int 2), .val (.int 2), .val (.int 2), .val (.ref b1), .val (.ref b8), .val (.ref b15), .val (.ref w_DENY)]) rfl ?_
  show Steps p.tables e below (T1.setTop (mkF m 225 #[.val (.int p1), .val (.int p2), .val (.int p3), .val (.int 2), .val (.int 2), .val (.int 2), .val (.ref b1), .val (.ref b8), .val (.ref b15), .val (.ref w_DENY)] [])) _
  refine XS.aload X1.here hx rfl (hb hby at_225) rfl rfl ?_
  show Steps p.tables e below (T1.setTop (mkF m 227 #[.val (.int p1), .val (.int p2), .val (.int p3), .val (.int 2), .val (.int 2), .val (.int 2), .val (.ref b1), .val (.ref b8), .val (.ref b15), .val (.ref w_DENY)] [(.ref w_DENY)])) _
  refine XS.aload X1.here hx rfl (hb hby at_227) rfl rfl ?_
  show Steps p.tables e below (T1.setTop (mkF m 229 #[.val (.int p1), .val (.int p2), .val (.int p3), .val (.int 2), .val (.int 2), .val (.int 2), .val (.ref b1), .val (.ref b8), .val (.ref b15), .val (.ref w_DENY)] [(.ref b8), (.ref w_DENY)])) _
  refine XS.aload X1.here hx rfl (hb hby at_229) rfl rfl ?_
  show Steps p.tables e below (T1.setTop (mkF m 231 #[.val (.int p1), .val (.int p2), .val (.int p3), .val (.int 2), .val (.int 2), .val (.int 2), .val (.ref b1), .val (.ref b8), .val (.ref b15), .val (.ref w_DENY)] [(.ref b15), (.ref b8), (.ref w_DENY)])) _
  refine XS.iloadN X1.here hx rfl (hb hby at_231) rfl ?_
  show Steps p.tables e below (T1.setTop (mkF m 232 #[.val (.int p1), .val (.int p2), .val (.int p3), .val (.int 2), .val (.int 2), .val (.int 2), .val (.ref b1), .val (.ref b8), .val (.ref b15), .val (.ref w_DENY)] [(.int 2), (.ref b15), (.ref b8), (.ref w_DENY)])) _
  refine XS.bipush X1.here hx rfl (hb hby at_232) ?_
  show Steps p.tables e below (T1.setTop (mkF m 234 #[.val (.int p1), .val (.int p2), .val (.int p3), .val (.int 2), .val (.int 2), .val (.int 2), .val (.ref b1), .val (.ref b8), .val (.ref b15), .val (.ref w_DENY)] [(.int 9), (.int 2), (.ref b15), (.ref b8), (.ref w_DENY)])) _
  refine XS.imul X1.here hx rfl (hb hby at_234) rfl ?_
  show Steps p.tables e below (T1.setTop (mkF m 235 #[.val (.int p1), .val (.int p2), .val (.int p3), .val (.int 2), .val (.int 2), .val (.int 2), .val (.ref b1), .val (.ref b8), .val (.ref b15), .val (.ref w_DENY)] [(.int ((2 : Int32) * (9 : Int32))), (.ref b15), (.ref b8), (.ref w_DENY)])) _
  rw [(by decide : ((2 : Int32) * (9 : Int32)) = (18 : Int32))]
  show Steps p.tables e below (T1.setTop (mkF m 235 #[.val (.int p1), .val (.int p2), .val (.int p3), .val (.int 2), .val (.int 2), .val (.int 2), .val (.ref b1), .val (.ref b8), .val (.ref b15), .val (.ref w_DENY)] [(.int 18), (.ref b15), (.ref b8), (.ref w_DENY)])) _
  refine XS.iload X1.here hx rfl (hb hby at_235) rfl ?_
  show Steps p.tables e below (T1.setTop (mkF m 237 #[.val (.int p1), .val (.int p2), .val (.int p3), .val (.int 2), .val (.int 2), .val (.int 2), .val (.ref b1), .val (.ref b8), .val (.ref b15), .val (.ref w_DENY)] [(.int 2), (.int 18), (.ref b15), (.ref b8), (.ref w_DENY)])) _
  refine XS.iconst X1.here hx rfl (hb hby at_237) ?_
  show Steps p.tables e below (T1.setTop (mkF m 238 #[.val (.int p1), .val (.int p2), .val (.int p3), .val (.int 2), .val (.int 2), .val (.int 2), .val (.ref b1), .val (.ref b8), .val (.ref b15), .val (.ref w_DENY)] [(.int 3), (.int 2), (.int 18), (.ref b15), (.ref b8), (.ref w_DENY)])) _
  refine XS.imul X1.here hx rfl (hb hby at_238) rfl ?_
  show Steps p.tables e below (T1.setTop (mkF m 239 #[.val (.int p1), .val (.int p2), .val (.int p3), .val (.int 2), .val (.int 2), .val (.int 2), .val (.ref b1), .val (.ref b8), .val (.ref b15), .val (.ref w_DENY)] [(.int ((2 : Int32) * (3 : Int32))), (.int 18), (.ref b15), (.ref b8), (.ref w_DENY)])) _
  rw [(by decide : ((2 : Int32) * (3 : Int32)) = (6 : Int32))]
  show Steps p.tables e below (T1.setTop (mkF m 239 #[.val (.int p1), .val (.int p2), .val (.int p3), .val (.int 2), .val (.int 2), .val (.int 2), .val (.ref b1), .val (.ref b8), .val (.ref b15), .val (.ref w_DENY)] [(.int 6), (.int 18), (.ref b15), (.ref b8), (.ref w_DENY)])) _
  refine XS.iadd X1.here hx rfl (hb hby at_239) rfl ?_
  show Steps p.tables e below (T1.setTop (mkF m 240 #[.val (.int p1), .val (.int p2), .val (.int p3), .val (.int 2), .val (.int 2), .val (.int 2), .val (.ref b1), .val (.ref b8), .val (.ref b15), .val (.ref w_DENY)] [(.int ((18 : Int32) + (6 : Int32))), (.ref b15), (.ref b8), (.ref w_DENY)])) _
  rw [(by decide : ((18 : Int32) + (6 : Int32)) = (24 : Int32))]
  show Steps p.tables e below (T1.setTop (mkF m 240 #[.val (.int p1), .val (.int p2), .val (.int p3), .val (.int 2), .val (.int 2), .val (.int 2), .val (.ref b1), .val (.ref b8), .val (.ref b15), .val (.ref w_DENY)] [(.int 24), (.ref b15), (.ref b8), (.ref w_DENY)])) _
  refine XS.iload X1.here hx rfl (hb hby at_240) rfl ?_
  show Steps p.tables e below (T1.setTop (mkF m 242 #[.val (.int p1), .val (.int p2), .val (.int p3), .val (.int 2), .val (.int 2), .val (.int 2), .val (.ref b1), .val (.ref b8), .val (.ref b15), .val (.ref w_DENY)] [(.int 2), (.int 24), (.ref b15), (.ref b8), (.ref w_DENY)])) _
  refine XS.iadd X1.here hx rfl (hb hby at_242) rfl ?_
  show Steps p.tables e below (T1.setTop (mkF m 243 #[.val (.int p1), .val (.int p2), .val (.int p3), .val (.int 2), .val (.int 2), .val (.int 2), .val (.ref b1), .val (.ref b8), .val (.ref b15), .val (.ref w_DENY)] [(.int ((24 : Int32) + (2 : Int32))), (.ref b15), (.ref b8), (.ref w_DENY)])) _
  rw [(by decide : ((24 : Int32) + (2 : Int32)) = (26 : Int32))]
  show Steps p.tables e below (T1.setTop (mkF m 243 #[.val (.int p1), .val (.int p2), .val (.int p3), .val (.int 2), .val (.int 2), .val (.int 2), .val (.ref b1), .val (.ref b8), .val (.ref b15), .val (.ref w_DENY)] [(.int 26), (.ref b15), (.ref b8), (.ref w_DENY)])) _
  refine own_ldI X1 hx hZ e1 V_b15 (j := (26 : Int32)) ⟨by decide, by decide⟩ rfl (g := (mkF m 243 #[.val (.int p1), .val (.int p2), .val (.int p3), .val (.int 2), .val (.int 2), .val (.int 2), .val (.ref b1), .val (.ref b8), .val (.ref b15), .val (.ref w_DENY)] [(.int 26), (.ref b15), (.ref b8), (.ref w_DENY)])) rfl rfl (hb hby at_243) _ ?_
  show Steps p.tables e below (T1.setTop (mkF m 244 #[.val (.int p1), .val (.int p2), .val (.int p3), .val (.int 2), .val (.int 2), .val (.int 2), .val (.ref b1), .val (.ref b8), .val (.ref b15), .val (.ref w_DENY)] [(.int 1), (.ref b8), (.ref w_DENY)])) _
  refine own_ldR X1 hx hZ e1 V_b8 (j := (1 : Int32)) ⟨by decide, by decide⟩ rfl (g := (mkF m 244 #[.val (.int p1), .val (.int p2), .val (.int p3), .val (.int 2), .val (.int 2), .val (.int 2), .val (.ref b1), .val (.ref b8), .val (.ref b15), .val (.ref w_DENY)] [(.int 1), (.ref b8), (.ref w_DENY)])) rfl rfl (hb hby at_244) _ ?_
  show Steps p.tables e below (T1.setTop (mkF m 245 #[.val (.int p1), .val (.int p2), .val (.int p3), .val (.int 2), .val (.int 2), .val (.int 2), .val (.ref b1), .val (.ref b8), .val (.ref b15), .val (.ref w_DENY)] [(.ref w_DENY), (.ref w_DENY)])) _
  refine Jvm.RoadKit.acmp (g := (mkF m 245 #[.val (.int p1), .val (.int p2), .val (.int p3), .val (.int 2), .val (.int 2), .val (.int 2), .val (.ref b1), .val (.ref b8), .val (.ref b15), .val (.ref w_DENY)] [(.ref w_DENY), (.ref w_DENY)])) X1 hx rfl rfl rfl (pc0 := 245) (pc' := 248) (same := true) rfl (hb hby at_245) rfl (decide_eq_true rfl) (by decide) (by decide) ?_
  show Steps p.tables e below (T1.setTop (mkF m 248 #[.val (.int p1), .val (.int p2), .val (.int p3), .val (.int 2), .val (.int 2), .val (.int 2), .val (.ref b1), .val (.ref b8), .val (.ref b15), .val (.ref w_DENY)] [])) _
  refine XS.iconst X1.here hx rfl (hb hby at_248) ?_
  show Steps p.tables e below (T1.setTop (mkF m 249 #[.val (.int p1), .val (.int p2), .val (.int p3), .val (.int 2), .val (.int 2), .val (.int 2), .val (.ref b1), .val (.ref b8), .val (.ref b15), .val (.ref w_DENY)] [(.int 1)])) _
  refine XS.goto X1.here hx rfl (pc0 := 249) (pc' := 253) rfl (hb hby at_249) (by decide) (by decide) ?_
  show Steps p.tables e below (T1.setTop (mkF m 253 #[.val (.int p1), .val (.int p2), .val (.int p3), .val (.int 2), .val (.int 2), .val (.int 2), .val (.ref b1), .val (.ref b8), .val (.ref b15), .val (.ref w_DENY)] [(.int 1)])) _
  exact kt
def Q0_all (Z : State) (p1 : Int32) (p2 : Int32) (p3 : Int32) (w_CHILD_OVERRIDES : Addr) (w_PARENT_OVERRIDES : Addr) (w_AND_BOTH_PERMIT : Addr) (w_PERMIT : Addr) (w_DENY : Addr) (w_INDETERMINATE : Addr) (h0 : Heap) (n0 : Nat) (v : Option Value) (h : Heap) (L : List Loc) : Prop := v = some (.int (1 : Int32)) ∧ Fr n0 L ∧ True
set_option maxRecDepth 65536 in
set_option maxHeartbeats 40000000 in
theorem rm0_all (l : Launch) (Z : State) (a0 : Array Value) (hw : ∀ d ∈ tables_1, d.before a0 Z = true) (ws : List Jvm.Cond) (p1 : Int32) (p2 : Int32) (p3 : Int32) (w_CHILD_OVERRIDES : Addr) (w_PARENT_OVERRIDES : Addr) (w_AND_BOTH_PERMIT : Addr) (w_PERMIT : Addr) (w_DENY : Addr) (w_INDETERMINATE : Addr) (h0 : Heap) (n0 : Nat) (Z0 : n0 ≤ h0.size) (S_CHILD_OVERRIDES : Sta Z h0 "com/example/tributary/tributary/AccessList$InheritanceType" "CHILD_OVERRIDES" "Lcom/example/tributary/tributary/AccessList$InheritanceType;" (.ref w_CHILD_OVERRIDES)) (E_w_CHILD_OVERRIDES : Exa Z h0 w_CHILD_OVERRIDES "com/example/tributary/tributary/AccessList$InheritanceType") (S_PARENT_OVERRIDES : Sta Z h0 "com/example/tributary/tributary/AccessList$InheritanceType" "PARENT_OVERRIDES" "Lcom/example/tributary/tributary/AccessList$InheritanceType;" (.ref w_PARENT_OVERRIDES)) (E_w_PARENT_OVERRIDES : Exa Z h0 w_PARENT_OVERRIDES "com/example/tributary/tributary/AccessList$InheritanceType") (S_AND_BOTH_PERMIT : Sta Z h0 "com/example/tributary/tributary/AccessList$InheritanceType" "AND_BOTH_PERMIT" "Lcom/example/tributary/tributary/AccessList$InheritanceType;" (.ref w_AND_BOTH_PERMIT)) (E_w_AND_BOTH_PERMIT : Exa Z h0 w_AND_BOTH_PERMIT "com/example/tributary/tributary/AccessList$InheritanceType") (S_PERMIT : Sta Z h0 "com/example/tributary/tributary/AccessList$Decision" "PERMIT" "Lcom/example/tributary/tributary/AccessList$Decision;" (.ref w_PERMIT)) (E_w_PERMIT : Exa Z h0 w_PERMIT "com/example/tributary/tributary/AccessList$Decision") (S_DENY : Sta Z h0 "com/example/tributary/tributary/AccessList$Decision" "DENY" "Lcom/example/tributary/tributary/AccessList$Decision;" (.ref w_DENY)) (E_w_DENY : Exa Z h0 w_DENY "com/example/tributary/tributary/AccessList$Decision") (S_INDETERMINATE : Sta Z h0 "com/example/tributary/tributary/AccessList$Decision" "INDETERMINATE" "Lcom/example/tributary/tributary/AccessList$Decision;" (.ref w_INDETERMINATE)) (E_w_INDETERMINATE : Exa Z h0 w_INDETERMINATE "com/example/tributary/tributary/AccessList$Decision") (F_ordinal_w_CHILD_OVERRIDES : Fld Z h0 w_CHILD_OVERRIDES "java/lang/Enum" "ordinal" "I" (.int 0)) (n_w_INDETERMINATE_w_PERMIT : ¬ (w_INDETERMINATE = w_PERMIT)) (n_w_DENY_w_INDETERMINATE : ¬ (w_DENY = w_INDETERMINATE)) (F_ordinal_w_PARENT_OVERRIDES : Fld Z h0 w_PARENT_OVERRIDES "java/lang/Enum" "ordinal" "I" (.int 1)) (F_ordinal_w_AND_BOTH_PERMIT : Fld Z h0 w_AND_BOTH_PERMIT "java/lang/Enum" "ordinal" "I" (.int 2)) (n_w_DENY_w_PERMIT : ¬ (w_DENY = w_PERMIT)) :
    MetFree l x (head1 (Jvm.Cond.code x code maxLocals ret :: ws) room_1) (fun a U => a = #[(.int p1), (.int p2), (.int p3)] ∧ Z.Warmed39 U.vm ∧ U.heap = h0) (fun _ _ _ _ _ => True) (fun _ U o U' => ∃ v L, o = .returned v ∧ Q0_all Z p1 p2 p3 w_CHILD_OVERRIDES w_PARENT_OVERRIDES w_AND_BOTH_PERMIT w_PERMIT w_DENY w_INDETERMINATE h0 n0 v U'.heap L ∧ FrameEnd U o U' L room_1.cells room_1.slots) := by
  refine MetFree.of_bodySF (plainFor_of_name pn_0) hisR ?_
  intro p e s m args below meth c s₁ Bd hml0 hP hK
  obtain ⟨rfl, hZ, hh⟩ := hP
  have hx := Bd.exec
  have hby := Bd.bytes
  have hml : c.maxLocals = 10 := hml0
  have hown : s.vm.findClass "com/example/tributary/tributary/InheritanceTypeCombinePinLaw" = some m.cls := findClass_of_methodNamed Bd.named
  have hnm := (name_of_methodNamed Bd.named Bd.method).1
  have X0 : Stand p l e room_1 s m #[(.int p1), (.int p2), (.int p3)] below meth c s₁ [] 0 0 := Stand.of_body Bd
  have e0 : s₁.heap = h0 := by rw [← hh, Bd.state]; rfl
  have N0 := Fr.nil n0
  have pre0 : ∀ t, Steps p.tables e below (s₁.setTop (mkF m 0 #[.val (.int p1), .val (.int p2), .val (.int p3), .unset, .unset, .unset, .unset, .unset, .unset, .unset] [])) t → Steps p.tables e below (s₁.setTop (entryFrame m #[(.int p1), (.int p2), (.int p3)] maxLocals)) t := fun t k => castTop (by first | (simp [entryFrame, mkF, argsToLocals, Value.category, maxLocals]; done) | rfl) k
  have h1m : (p1 &&& (2147483647 : Int32)).toInt = p1.toInt % (2 ^ 31 : Nat) := c_mask p1 2147483647 31 (by decide) (by decide)
  have h1r : ((p1 &&& (2147483647 : Int32)) % (3 : Int32)).toInt = (p1 &&& (2147483647 : Int32)).toInt % 3 := (c_irem _ (3 : Int32) 3 (by decide)).1 (by omega)
  have h2m : (p2 &&& (2147483647 : Int32)).toInt = p2.toInt % (2 ^ 31 : Nat) := c_mask p2 2147483647 31 (by decide) (by decide)
  have h2r : ((p2 &&& (2147483647 : Int32)) % (3 : Int32)).toInt = (p2 &&& (2147483647 : Int32)).toInt % 3 := (c_irem _ (3 : Int32) 3 (by decide)).1 (by omega)
  have h3m : (p3 &&& (2147483647 : Int32)).toInt = p3.toInt % (2 ^ 31 : Nat) := c_mask p3 2147483647 31 (by decide) (by decide)
  have h3r : ((p3 &&& (2147483647 : Int32)) % (3 : Int32)).toInt = (p3 &&& (2147483647 : Int32)).toInt % 3 := (c_irem _ (3 : Int32) 3 (by decide)).1 (by omega)
  obtain ⟨t, ht⟩ : ∃ z, ((p1 &&& (2147483647 : Int32)) % (3 : Int32)) = z := ⟨_, rfl⟩
  rw [ht] at h1r
  obtain ⟨q, hq⟩ : ∃ z, ((p2 &&& (2147483647 : Int32)) % (3 : Int32)) = z := ⟨_, rfl⟩
  rw [hq] at h2r
  obtain ⟨r, hr0⟩ : ∃ z, ((p3 &&& (2147483647 : Int32)) % (3 : Int32)) = z := ⟨_, rfl⟩
  rw [hr0] at h3r
  obtain ⟨T1, h1, L1, b1, b8, b15, k1, k8, k15, X1, e1, K1, N1, sz_b1, sz_b8, sz_b15, V_b1, O_b1, V_b8, O_b8, V_b15, st1⟩ := pc0_pre p1 p2 p3 t q r w_CHILD_OVERRIDES w_PARENT_OVERRIDES w_AND_BOTH_PERMIT w_PERMIT w_DENY w_INDETERMINATE X0 hx hZ hw hby hml hown e0 Z0 N0 ht hq hr0 S_CHILD_OVERRIDES E_w_CHILD_OVERRIDES S_PARENT_OVERRIDES E_w_PARENT_OVERRIDES S_AND_BOTH_PERMIT E_w_AND_BOTH_PERMIT S_PERMIT E_w_PERMIT S_DENY E_w_DENY S_INDETERMINATE E_w_INDETERMINATE
  have Z1 : n0 ≤ h1.size := Nat.le_trans Z0 K1.1
  have tail : ∃ (T' : State) (L' : List Loc) (Ls : Array Slot), Stand p l e room_1 s m #[(.int p1), (.int p2), (.int p3)] below meth c T' L' 3 33 ∧ Fr n0 L' ∧ ∀ target, Steps p.tables e below (T'.setTop (mkF m 253 Ls [(.int (1 : Int32))])) target → Steps p.tables e below (T1.setTop (mkF m 206 #[.val (.int p1), .val (.int p2), .val (.int p3), .val (.int t), .val (.int q), .val (.int r), .val (.ref b1), .val (.ref b8), .val (.ref b15), .unset] [])) target := by
    rcases own_split3 (x := t) (by omega) (by omega) with rfl | rfl | rfl
    · rcases own_split3 (x := q) (by omega) (by omega) with rfl | rfl | rfl
      · rcases own_split3 (x := r) (by omega) (by omega) with rfl | rfl | rfl
        · exact pc0_k000 p1 p2 p3 b1 b8 b15 k1 w_CHILD_OVERRIDES w_PARENT_OVERRIDES w_AND_BOTH_PERMIT k8 w_PERMIT w_DENY w_INDETERMINATE k15 X1 hx hZ hw hby hml hown e1 Z1 N1 V_b1 V_b8 (F_ordinal_w_CHILD_OVERRIDES.keep K1 nin0) (E_w_CHILD_OVERRIDES.keep K1) (own_sta_keep S_INDETERMINATE K1) n_w_INDETERMINATE_w_PERMIT V_b15
        · exact pc0_k001 p1 p2 p3 b1 b8 b15 k1 w_CHILD_OVERRIDES w_PARENT_OVERRIDES w_AND_BOTH_PERMIT k8 w_PERMIT w_DENY w_INDETERMINATE k15 X1 hx hZ hw hby hml hown e1 Z1 N1 V_b1 V_b8 (F_ordinal_w_CHILD_OVERRIDES.keep K1 nin0) (E_w_CHILD_OVERRIDES.keep K1) (own_sta_keep S_INDETERMINATE K1) n_w_DENY_w_INDETERMINATE V_b15
        · exact pc0_k002 p1 p2 p3 b1 b8 b15 k1 w_CHILD_OVERRIDES w_PARENT_OVERRIDES w_AND_BOTH_PERMIT k8 w_PERMIT w_DENY w_INDETERMINATE k15 X1 hx hZ hw hby hml hown e1 Z1 N1 V_b1 V_b8 (F_ordinal_w_CHILD_OVERRIDES.keep K1 nin0) (E_w_CHILD_OVERRIDES.keep K1) (own_sta_keep S_INDETERMINATE K1) V_b15
      · rcases own_split3 (x := r) (by omega) (by omega) with rfl | rfl | rfl
        · exact pc0_k010 p1 p2 p3 b1 b8 b15 k1 w_CHILD_OVERRIDES w_PARENT_OVERRIDES w_AND_BOTH_PERMIT k8 w_PERMIT w_DENY w_INDETERMINATE k15 X1 hx hZ hw hby hml hown e1 Z1 N1 V_b1 V_b8 (F_ordinal_w_CHILD_OVERRIDES.keep K1 nin0) (E_w_CHILD_OVERRIDES.keep K1) (own_sta_keep S_INDETERMINATE K1) n_w_INDETERMINATE_w_PERMIT V_b15
        · exact pc0_k011 p1 p2 p3 b1 b8 b15 k1 w_CHILD_OVERRIDES w_PARENT_OVERRIDES w_AND_BOTH_PERMIT k8 w_PERMIT w_DENY w_INDETERMINATE k15 X1 hx hZ hw hby hml hown e1 Z1 N1 V_b1 V_b8 (F_ordinal_w_CHILD_OVERRIDES.keep K1 nin0) (E_w_CHILD_OVERRIDES.keep K1) (own_sta_keep S_INDETERMINATE K1) n_w_DENY_w_INDETERMINATE V_b15
        · exact pc0_k012 p1 p2 p3 b1 b8 b15 k1 w_CHILD_OVERRIDES w_PARENT_OVERRIDES w_AND_BOTH_PERMIT k8 w_PERMIT w_DENY w_INDETERMINATE k15 X1 hx hZ hw hby hml hown e1 Z1 N1 V_b1 V_b8 (F_ordinal_w_CHILD_OVERRIDES.keep K1 nin0) (E_w_CHILD_OVERRIDES.keep K1) (own_sta_keep S_INDETERMINATE K1) V_b15
      · rcases own_split3 (x := r) (by omega) (by omega) with rfl | rfl | rfl
        · exact pc0_k020 p1 p2 p3 b1 b8 b15 k1 w_CHILD_OVERRIDES w_PARENT_OVERRIDES w_AND_BOTH_PERMIT k8 w_PERMIT w_DENY w_INDETERMINATE k15 X1 hx hZ hw hby hml hown e1 Z1 N1 V_b1 V_b8 (F_ordinal_w_CHILD_OVERRIDES.keep K1 nin0) (E_w_CHILD_OVERRIDES.keep K1) (own_sta_keep S_INDETERMINATE K1) n_w_INDETERMINATE_w_PERMIT V_b15
        · exact pc0_k021 p1 p2 p3 b1 b8 b15 k1 w_CHILD_OVERRIDES w_PARENT_OVERRIDES w_AND_BOTH_PERMIT k8 w_PERMIT w_DENY w_INDETERMINATE k15 X1 hx hZ hw hby hml hown e1 Z1 N1 V_b1 V_b8 (F_ordinal_w_CHILD_OVERRIDES.keep K1 nin0) (E_w_CHILD_OVERRIDES.keep K1) (own_sta_keep S_INDETERMINATE K1) n_w_DENY_w_INDETERMINATE V_b15
        · exact pc0_k022 p1 p2 p3 b1 b8 b15 k1 w_CHILD_OVERRIDES w_PARENT_OVERRIDES w_AND_BOTH_PERMIT k8 w_PERMIT w_DENY w_INDETERMINATE k15 X1 hx hZ hw hby hml hown e1 Z1 N1 V_b1 V_b8 (F_ordinal_w_CHILD_OVERRIDES.keep K1 nin0) (E_w_CHILD_OVERRIDES.keep K1) (own_sta_keep S_INDETERMINATE K1) V_b15
    · rcases own_split3 (x := q) (by omega) (by omega) with rfl | rfl | rfl
      · rcases own_split3 (x := r) (by omega) (by omega) with rfl | rfl | rfl
        · exact pc0_k100 p1 p2 p3 b1 b8 b15 k1 w_CHILD_OVERRIDES w_PARENT_OVERRIDES w_AND_BOTH_PERMIT k8 w_PERMIT w_DENY w_INDETERMINATE k15 X1 hx hZ hw hby hml hown e1 Z1 N1 V_b1 V_b8 (F_ordinal_w_PARENT_OVERRIDES.keep K1 nin0) (E_w_PARENT_OVERRIDES.keep K1) (own_sta_keep S_INDETERMINATE K1) n_w_INDETERMINATE_w_PERMIT V_b15
        · exact pc0_k101 p1 p2 p3 b1 b8 b15 k1 w_CHILD_OVERRIDES w_PARENT_OVERRIDES w_AND_BOTH_PERMIT k8 w_PERMIT w_DENY w_INDETERMINATE k15 X1 hx hZ hw hby hml hown e1 Z1 N1 V_b1 V_b8 (F_ordinal_w_PARENT_OVERRIDES.keep K1 nin0) (E_w_PARENT_OVERRIDES.keep K1) (own_sta_keep S_INDETERMINATE K1) n_w_INDETERMINATE_w_PERMIT V_b15
        · exact pc0_k102 p1 p2 p3 b1 b8 b15 k1 w_CHILD_OVERRIDES w_PARENT_OVERRIDES w_AND_BOTH_PERMIT k8 w_PERMIT w_DENY w_INDETERMINATE k15 X1 hx hZ hw hby hml hown e1 Z1 N1 V_b1 V_b8 (F_ordinal_w_PARENT_OVERRIDES.keep K1 nin0) (E_w_PARENT_OVERRIDES.keep K1) (own_sta_keep S_INDETERMINATE K1) n_w_INDETERMINATE_w_PERMIT V_b15
      · rcases own_split3 (x := r) (by omega) (by omega) with rfl | rfl | rfl
        · exact pc0_k110 p1 p2 p3 b1 b8 b15 k1 w_CHILD_OVERRIDES w_PARENT_OVERRIDES w_AND_BOTH_PERMIT k8 w_PERMIT w_DENY w_INDETERMINATE k15 X1 hx hZ hw hby hml hown e1 Z1 N1 V_b1 V_b8 (F_ordinal_w_PARENT_OVERRIDES.keep K1 nin0) (E_w_PARENT_OVERRIDES.keep K1) (own_sta_keep S_INDETERMINATE K1) n_w_DENY_w_INDETERMINATE V_b15
        · exact pc0_k111 p1 p2 p3 b1 b8 b15 k1 w_CHILD_OVERRIDES w_PARENT_OVERRIDES w_AND_BOTH_PERMIT k8 w_PERMIT w_DENY w_INDETERMINATE k15 X1 hx hZ hw hby hml hown e1 Z1 N1 V_b1 V_b8 (F_ordinal_w_PARENT_OVERRIDES.keep K1 nin0) (E_w_PARENT_OVERRIDES.keep K1) (own_sta_keep S_INDETERMINATE K1) n_w_DENY_w_INDETERMINATE V_b15
        · exact pc0_k112 p1 p2 p3 b1 b8 b15 k1 w_CHILD_OVERRIDES w_PARENT_OVERRIDES w_AND_BOTH_PERMIT k8 w_PERMIT w_DENY w_INDETERMINATE k15 X1 hx hZ hw hby hml hown e1 Z1 N1 V_b1 V_b8 (F_ordinal_w_PARENT_OVERRIDES.keep K1 nin0) (E_w_PARENT_OVERRIDES.keep K1) (own_sta_keep S_INDETERMINATE K1) n_w_DENY_w_INDETERMINATE V_b15
      · rcases own_split3 (x := r) (by omega) (by omega) with rfl | rfl | rfl
        · exact pc0_k120 p1 p2 p3 b1 b8 b15 k1 w_CHILD_OVERRIDES w_PARENT_OVERRIDES w_AND_BOTH_PERMIT k8 w_PERMIT w_DENY w_INDETERMINATE k15 X1 hx hZ hw hby hml hown e1 Z1 N1 V_b1 V_b8 (F_ordinal_w_PARENT_OVERRIDES.keep K1 nin0) (E_w_PARENT_OVERRIDES.keep K1) (own_sta_keep S_INDETERMINATE K1) V_b15
        · exact pc0_k121 p1 p2 p3 b1 b8 b15 k1 w_CHILD_OVERRIDES w_PARENT_OVERRIDES w_AND_BOTH_PERMIT k8 w_PERMIT w_DENY w_INDETERMINATE k15 X1 hx hZ hw hby hml hown e1 Z1 N1 V_b1 V_b8 (F_ordinal_w_PARENT_OVERRIDES.keep K1 nin0) (E_w_PARENT_OVERRIDES.keep K1) (own_sta_keep S_INDETERMINATE K1) V_b15
        · exact pc0_k122 p1 p2 p3 b1 b8 b15 k1 w_CHILD_OVERRIDES w_PARENT_OVERRIDES w_AND_BOTH_PERMIT k8 w_PERMIT w_DENY w_INDETERMINATE k15 X1 hx hZ hw hby hml hown e1 Z1 N1 V_b1 V_b8 (F_ordinal_w_PARENT_OVERRIDES.keep K1 nin0) (E_w_PARENT_OVERRIDES.keep K1) (own_sta_keep S_INDETERMINATE K1) V_b15
    · rcases own_split3 (x := q) (by omega) (by omega) with rfl | rfl | rfl
      · rcases own_split3 (x := r) (by omega) (by omega) with rfl | rfl | rfl
        · exact pc0_k200 p1 p2 p3 b1 b8 b15 k1 w_CHILD_OVERRIDES w_PARENT_OVERRIDES w_AND_BOTH_PERMIT k8 w_PERMIT w_DENY w_INDETERMINATE k15 X1 hx hZ hw hby hml hown e1 Z1 N1 V_b1 V_b8 (F_ordinal_w_AND_BOTH_PERMIT.keep K1 nin0) (E_w_AND_BOTH_PERMIT.keep K1) (own_sta_keep S_PERMIT K1) V_b15
        · exact pc0_k201 p1 p2 p3 b1 b8 b15 k1 w_CHILD_OVERRIDES w_PARENT_OVERRIDES w_AND_BOTH_PERMIT k8 w_PERMIT w_DENY w_INDETERMINATE k15 X1 hx hZ hw hby hml hown e1 Z1 N1 V_b1 V_b8 (F_ordinal_w_AND_BOTH_PERMIT.keep K1 nin0) (E_w_AND_BOTH_PERMIT.keep K1) (own_sta_keep S_PERMIT K1) n_w_DENY_w_PERMIT (own_sta_keep S_DENY K1) V_b15
        · exact pc0_k202 p1 p2 p3 b1 b8 b15 k1 w_CHILD_OVERRIDES w_PARENT_OVERRIDES w_AND_BOTH_PERMIT k8 w_PERMIT w_DENY w_INDETERMINATE k15 X1 hx hZ hw hby hml hown e1 Z1 N1 V_b1 V_b8 (F_ordinal_w_AND_BOTH_PERMIT.keep K1 nin0) (E_w_AND_BOTH_PERMIT.keep K1) (own_sta_keep S_PERMIT K1) n_w_INDETERMINATE_w_PERMIT (own_sta_keep S_DENY K1) V_b15
      · rcases own_split3 (x := r) (by omega) (by omega) with rfl | rfl | rfl
        · exact pc0_k210 p1 p2 p3 b1 b8 b15 k1 w_CHILD_OVERRIDES w_PARENT_OVERRIDES w_AND_BOTH_PERMIT k8 w_PERMIT w_DENY w_INDETERMINATE k15 X1 hx hZ hw hby hml hown e1 Z1 N1 V_b1 V_b8 (F_ordinal_w_AND_BOTH_PERMIT.keep K1 nin0) (E_w_AND_BOTH_PERMIT.keep K1) (own_sta_keep S_PERMIT K1) n_w_DENY_w_PERMIT (own_sta_keep S_DENY K1) V_b15
        · exact pc0_k211 p1 p2 p3 b1 b8 b15 k1 w_CHILD_OVERRIDES w_PARENT_OVERRIDES w_AND_BOTH_PERMIT k8 w_PERMIT w_DENY w_INDETERMINATE k15 X1 hx hZ hw hby hml hown e1 Z1 N1 V_b1 V_b8 (F_ordinal_w_AND_BOTH_PERMIT.keep K1 nin0) (E_w_AND_BOTH_PERMIT.keep K1) (own_sta_keep S_PERMIT K1) n_w_DENY_w_PERMIT (own_sta_keep S_DENY K1) V_b15
        · exact pc0_k212 p1 p2 p3 b1 b8 b15 k1 w_CHILD_OVERRIDES w_PARENT_OVERRIDES w_AND_BOTH_PERMIT k8 w_PERMIT w_DENY w_INDETERMINATE k15 X1 hx hZ hw hby hml hown e1 Z1 N1 V_b1 V_b8 (F_ordinal_w_AND_BOTH_PERMIT.keep K1 nin0) (E_w_AND_BOTH_PERMIT.keep K1) (own_sta_keep S_PERMIT K1) n_w_DENY_w_PERMIT (own_sta_keep S_DENY K1) V_b15
      · rcases own_split3 (x := r) (by omega) (by omega) with rfl | rfl | rfl
        · exact pc0_k220 p1 p2 p3 b1 b8 b15 k1 w_CHILD_OVERRIDES w_PARENT_OVERRIDES w_AND_BOTH_PERMIT k8 w_PERMIT w_DENY w_INDETERMINATE k15 X1 hx hZ hw hby hml hown e1 Z1 N1 V_b1 V_b8 (F_ordinal_w_AND_BOTH_PERMIT.keep K1 nin0) (E_w_AND_BOTH_PERMIT.keep K1) (own_sta_keep S_PERMIT K1) n_w_INDETERMINATE_w_PERMIT (own_sta_keep S_DENY K1) V_b15
        · exact pc0_k221 p1 p2 p3 b1 b8 b15 k1 w_CHILD_OVERRIDES w_PARENT_OVERRIDES w_AND_BOTH_PERMIT k8 w_PERMIT w_DENY w_INDETERMINATE k15 X1 hx hZ hw hby hml hown e1 Z1 N1 V_b1 V_b8 (F_ordinal_w_AND_BOTH_PERMIT.keep K1 nin0) (E_w_AND_BOTH_PERMIT.keep K1) (own_sta_keep S_PERMIT K1) n_w_INDETERMINATE_w_PERMIT (own_sta_keep S_DENY K1) V_b15
        · exact pc0_k222 p1 p2 p3 b1 b8 b15 k1 w_CHILD_OVERRIDES w_PARENT_OVERRIDES w_AND_BOTH_PERMIT k8 w_PERMIT w_DENY w_INDETERMINATE k15 X1 hx hZ hw hby hml hown e1 Z1 N1 V_b1 V_b8 (F_ordinal_w_AND_BOTH_PERMIT.keep K1 nin0) (E_w_AND_BOTH_PERMIT.keep K1) (own_sta_keep S_PERMIT K1) n_w_INDETERMINATE_w_PERMIT (own_sta_keep S_DENY K1) V_b15
  obtain ⟨T2, L2, Ls, X2, N2, st2⟩ := tail
  obtain ⟨fs, hr, hrun, hended, hW, hsame⟩ := X2.leave (v := some (.int (1 : Int32))) (fun h => by rw [Bd.returns] at h; cases h)
  refine ⟨_, _, pre0 _ ?_, hrun, hended, _, _, rfl, ?_, ⟨_, rfl⟩, hW, hsame.mono (by decide) (by decide)⟩
  · refine st1 _ ?_
    refine st2 _ ?_
    exact retN X2 hx (t := .boolean) Bd.returns (by simp) (hb hby at_253) hr
  · show Q0_all Z p1 p2 p3 w_CHILD_OVERRIDES w_PARENT_OVERRIDES w_AND_BOTH_PERMIT w_PERMIT w_DENY w_INDETERMINATE h0 n0 _ T2.heap _
    exact ⟨rfl, N2, trivial⟩
set_option maxRecDepth 65536 in
set_option maxHeartbeats 40000000 in
theorem comes_1 {Post : Tables → Env → Array Value → State → Outcome → State → Prop} (hpost : ∀ tb e args s v u, (limb_1_1.after args s (.returned v) u = true ∧ limb_1_2.after args s (.returned v) u = true ∧ True) → FrameEnd s (.returned v) u (Jvm.fieldLocs frame_1_writes args s ++ Jvm.arrayLocs frame_1_arrays args s ++ Jvm.staticLocs frame_1_statics s) 16 192 → Post tb e args s (.returned v) u) :
    ArmFor flags0 classFile x code maxLocals ret World_1 tables_1 room_1 Calls_1 rest_1 Pre_1 Post := by
  intro l hfl _ _ p e ha hc hk s m args below hf hA hF happ hP
  obtain ⟨hcalls, hrest, hpre⟩ := hP
  obtain ⟨-, -, -, hnamed, -, -, -, hat⟩ := (Spec.applies_iff hf).mp happ
  obtain ⟨hg, hn⟩ := and_e (Cond.before_iff.mp (show (Jvm.Cond.and given_1 narrow_1).before args s = true from hpre))
  obtain ⟨g1a, g1b⟩ := and_e hg
  obtain ⟨g2a, g2b⟩ := and_e g1b
  obtain ⟨g3a, g3b⟩ := and_e g2b
  obtain ⟨w0, w1, w2, rfl⟩ : ∃ w0 w1 w2 : Value, args = #[w0, w1, w2] := by
    have hs : args.size = 3 := by simpa [Cond.value, given_1] using g1a
    obtain ⟨L⟩ := args
    match L, hs with
    | [w0, w1, w2], _ => exact ⟨w0, w1, w2, rfl⟩
  have hw := fun d (hd : d ∈ tables_1) => atoms_spec (ws := Jvm.Cond.code x code maxLocals ret :: tables_1) hat d (List.mem_cons_of_mem _ hd)
  have hfit : Fit s := fun {y c} hc i hi => by
    obtain ⟨ha, rfl⟩ := Array.getElem?_eq_some_iff.mp hc
    have q := List.all_eq_true.mp ((Array.all_eq_true_iff_forall_mem.mp hF) _ (Array.getElem_mem ha)) i (List.mem_range.mpr hi)
    simpa [Array.getElem?_eq_getElem hi] using q
  obtain ⟨i0, ei0⟩ := is_v g2a
  obtain rfl : w0 = (.int i0) := Option.some.inj ei0
  obtain ⟨i1, ei1⟩ := is_v g3a
  obtain rfl : w1 = (.int i1) := Option.some.inj ei1
  obtain ⟨i2, ei2⟩ := is_v g3b
  obtain rfl : w2 = (.int i2) := Option.some.inj ei2
  obtain ⟨g4a, g4b⟩ := and_e hn
  obtain ⟨g5a, g5b⟩ := and_e g4b
  obtain ⟨g6a, g6b⟩ := and_e g5b
  obtain ⟨g7a, g7b⟩ := and_e g6b
  obtain ⟨g8a, g8b⟩ := and_e g7b
  obtain ⟨g9a, g9b⟩ := and_e g8b
  obtain ⟨g10a, g10b⟩ := and_e g9b
  obtain ⟨g11a, g11b⟩ := and_e g10b
  obtain ⟨g12a, g12b⟩ := and_e g11b
  obtain ⟨g13a, g13b⟩ := and_e g12b
  obtain ⟨g14a, g14b⟩ := and_e g13b
  obtain ⟨w_CHILD_OVERRIDES, ev_CHILD_OVERRIDES⟩ := exa_v g4a
  have E_w_CHILD_OVERRIDES : Exa s s.heap w_CHILD_OVERRIDES "com/example/tributary/tributary/AccessList$InheritanceType" := Exa.start ev_CHILD_OVERRIDES g4a
  have S_CHILD_OVERRIDES : Sta s s.heap "com/example/tributary/tributary/AccessList$InheritanceType" "CHILD_OVERRIDES" "Lcom/example/tributary/tributary/AccessList$InheritanceType;" (.ref w_CHILD_OVERRIDES) := Sta.start ev_CHILD_OVERRIDES (Or.inr ⟨(hw _ (List.mem_of_getElem? (i := 4) rfl)), (hw _ (List.mem_of_getElem? (i := 5) rfl))⟩)
  obtain ⟨w_PARENT_OVERRIDES, ev_PARENT_OVERRIDES⟩ := exa_v g5a
  have E_w_PARENT_OVERRIDES : Exa s s.heap w_PARENT_OVERRIDES "com/example/tributary/tributary/AccessList$InheritanceType" := Exa.start ev_PARENT_OVERRIDES g5a
  have S_PARENT_OVERRIDES : Sta s s.heap "com/example/tributary/tributary/AccessList$InheritanceType" "PARENT_OVERRIDES" "Lcom/example/tributary/tributary/AccessList$InheritanceType;" (.ref w_PARENT_OVERRIDES) := Sta.start ev_PARENT_OVERRIDES (Or.inr ⟨(hw _ (List.mem_of_getElem? (i := 4) rfl)), (hw _ (List.mem_of_getElem? (i := 8) rfl))⟩)
  obtain ⟨w_AND_BOTH_PERMIT, ev_AND_BOTH_PERMIT⟩ := exa_v g6a
  have E_w_AND_BOTH_PERMIT : Exa s s.heap w_AND_BOTH_PERMIT "com/example/tributary/tributary/AccessList$InheritanceType" := Exa.start ev_AND_BOTH_PERMIT g6a
  have S_AND_BOTH_PERMIT : Sta s s.heap "com/example/tributary/tributary/AccessList$InheritanceType" "AND_BOTH_PERMIT" "Lcom/example/tributary/tributary/AccessList$InheritanceType;" (.ref w_AND_BOTH_PERMIT) := Sta.start ev_AND_BOTH_PERMIT (Or.inr ⟨(hw _ (List.mem_of_getElem? (i := 4) rfl)), (hw _ (List.mem_of_getElem? (i := 10) rfl))⟩)
  obtain ⟨w_PERMIT, ev_PERMIT⟩ := exa_v g7a
  have E_w_PERMIT : Exa s s.heap w_PERMIT "com/example/tributary/tributary/AccessList$Decision" := Exa.start ev_PERMIT g7a
  have S_PERMIT : Sta s s.heap "com/example/tributary/tributary/AccessList$Decision" "PERMIT" "Lcom/example/tributary/tributary/AccessList$Decision;" (.ref w_PERMIT) := Sta.start ev_PERMIT (Or.inr ⟨(hw _ (List.mem_of_getElem? (i := 14) rfl)), (hw _ (List.mem_of_getElem? (i := 15) rfl))⟩)
  obtain ⟨w_DENY, ev_DENY⟩ := exa_v g8a
  have E_w_DENY : Exa s s.heap w_DENY "com/example/tributary/tributary/AccessList$Decision" := Exa.start ev_DENY g8a
  have S_DENY : Sta s s.heap "com/example/tributary/tributary/AccessList$Decision" "DENY" "Lcom/example/tributary/tributary/AccessList$Decision;" (.ref w_DENY) := Sta.start ev_DENY (Or.inr ⟨(hw _ (List.mem_of_getElem? (i := 14) rfl)), (hw _ (List.mem_of_getElem? (i := 18) rfl))⟩)
  obtain ⟨w_INDETERMINATE, ev_INDETERMINATE⟩ := exa_v g9a
  have E_w_INDETERMINATE : Exa s s.heap w_INDETERMINATE "com/example/tributary/tributary/AccessList$Decision" := Exa.start ev_INDETERMINATE g9a
  have S_INDETERMINATE : Sta s s.heap "com/example/tributary/tributary/AccessList$Decision" "INDETERMINATE" "Lcom/example/tributary/tributary/AccessList$Decision;" (.ref w_INDETERMINATE) := Sta.start ev_INDETERMINATE (Or.inr ⟨(hw _ (List.mem_of_getElem? (i := 14) rfl)), (hw _ (List.mem_of_getElem? (i := 20) rfl))⟩)
  have F_ordinal_w_CHILD_OVERRIDES : Fld s s.heap w_CHILD_OVERRIDES "java/lang/Enum" "ordinal" "I" (.int (0 : Int32)) := own_fld ev_CHILD_OVERRIDES g10a
  have F_ordinal_w_PARENT_OVERRIDES : Fld s s.heap w_PARENT_OVERRIDES "java/lang/Enum" "ordinal" "I" (.int (1 : Int32)) := own_fld ev_PARENT_OVERRIDES g11a
  have F_ordinal_w_PERMIT : Fld s s.heap w_PERMIT "java/lang/Enum" "ordinal" "I" (.int (0 : Int32)) := own_fld ev_PERMIT g12a
  have F_ordinal_w_INDETERMINATE : Fld s s.heap w_INDETERMINATE "java/lang/Enum" "ordinal" "I" (.int (2 : Int32)) := own_fld ev_INDETERMINATE g13a
  have F_ordinal_w_AND_BOTH_PERMIT : Fld s s.heap w_AND_BOTH_PERMIT "java/lang/Enum" "ordinal" "I" (.int (2 : Int32)) := own_fld ev_AND_BOTH_PERMIT g14a
  have F_ordinal_w_DENY : Fld s s.heap w_DENY "java/lang/Enum" "ordinal" "I" (.int (1 : Int32)) := own_fld ev_DENY g14b
  have n_w_DENY_w_INDETERMINATE : ¬ (w_DENY = w_INDETERMINATE) := own_ne F_ordinal_w_DENY F_ordinal_w_INDETERMINATE (by decide)
  have n_w_DENY_w_PERMIT : ¬ (w_DENY = w_PERMIT) := own_ne F_ordinal_w_DENY F_ordinal_w_PERMIT (by decide)
  have n_w_INDETERMINATE_w_PERMIT : ¬ (w_INDETERMINATE = w_PERMIT) := own_ne F_ordinal_w_INDETERMINATE F_ordinal_w_PERMIT (by decide)
  obtain ⟨n, o, h1, h2, h3, _, L, rfl, ⟨rfl, N, -⟩, hq⟩ := rm0_all l s _ hw tables_1 i0 i1 i2 w_CHILD_OVERRIDES w_PARENT_OVERRIDES w_AND_BOTH_PERMIT w_PERMIT w_DENY w_INDETERMINATE s.heap s.heap.size (Nat.le_refl _) S_CHILD_OVERRIDES E_w_CHILD_OVERRIDES S_PARENT_OVERRIDES E_w_PARENT_OVERRIDES S_AND_BOTH_PERMIT E_w_AND_BOTH_PERMIT S_PERMIT E_w_PERMIT S_DENY E_w_DENY S_INDETERMINATE E_w_INDETERMINATE F_ordinal_w_CHILD_OVERRIDES n_w_INDETERMINATE_w_PERMIT n_w_DENY_w_INDETERMINATE F_ordinal_w_PARENT_OVERRIDES F_ordinal_w_AND_BOTH_PERMIT n_w_DENY_w_PERMIT p e ha hc hk s m _ below hf ((Spec.applies_iff_loose hf).mp happ).1 ⟨rfl, State.Warmed39.refl s, rfl⟩ trivial
  exact ⟨n, _, h1, h2, h3, hpost _ _ _ _ _ _ ⟨Cond.after_iff.mpr rfl, Cond.after_iff.mpr (eq_i res_at (Term.int_eval (1)) rfl), trivial⟩ ⟨hq.1, hq.2.1, (hq.2.2.sift fun y hy => Or.inr (N y hy)).mono (by decide) (by decide)⟩⟩
theorem main_1_1 : Claimed_1_1 := comes_1 fun _ _ _ _ _ _ h hF => ⟨h.1, hF⟩
theorem main_1_2 : Claimed_1_2 := comes_1 fun _ _ _ _ _ _ h hF => ⟨h.2.1, hF⟩
end Jvm.Pilot.@@N@@
namespace Jvm.Pilot.@@N@@
open Jvm Jvm.ClassFile Sem Op Lib Jvm.Free Jvm.Stand Jvm.Pilot.@@N@@.Jvm.D
/-! MADE BY PROGRAM (witnessworld.py) out of the Statement's table words and the real class files: 15 classes; the members and pool entries that the words name. The judged class is class 1, her method 1. -/
namespace start1
open Jvm.ClassFile
def u (s : String) : CpInfo := .utf8 (stringToUtf16 s)
/-- a pool by its gaps: so many unusable entries, then the entry; so many at the end -/
def gap : Nat → List CpInfo → List CpInfo
  | 0, r => r
  | n + 1, r => .unusable :: gap n r
def poolList (es : List (Nat × CpInfo)) (last : Nat) : List CpInfo := es.foldr (fun e r => gap e.1 (e.2 :: r)) (gap last [])
def pool (es : List (Nat × CpInfo)) (last : Nat) : Array CpInfo := ⟨poolList es last⟩
def fileOf (pool : Array CpInfo) (this : Nat) (attrs : Array Attribute := #[]) (ms : Array MethodInfo := #[]) (fl : Nat := 33) (sup : Nat := 0) (ifs : Array Nat := #[]) (fds : Array FieldInfo := #[]) : ClassFile where
  minorVersion := 0
  majorVersion := 65
  constantPool := pool
  accessFlags := fl
  thisClass := this
  superClass := sup
  interfaces := ifs
  fields := fds
  methods := ms
  attributes := attrs
def plain (name : String) (sup : Option ClassId) : Class where
  name := name
  kind := .ordinary
  loader := none
  accessFlags := 33
  super := sup
  interfaces := #[]
  cf := none
  fields := #[]
  methods := #[]
  instanceTypes := #[]
  staticTypes := #[]
  resolved := #[]
  callSites := []
  init := .initialized
  statics := none
  mirror := none

def pool0 : Array CpInfo := pool [(5, u "<init>"), (0, u "()V"), (1, .class_ 10), (1, u "java/lang/Object")] 113

def k0m0 : Method := { name := "<init>", desc := "()V", sig := { parameters := [], returnType := none }, accessFlags := 1, code := none }
/-- java/lang/Object -/
def k0 : Class := { plain "java/lang/Object" none with
  accessFlags := 33
  interfaces := #[]
  cf := some (fileOf pool0 8 #[] #[{ accessFlags := 1, nameIndex := 5, descriptorIndex := 6, attributes := #[] }] 33 0 #[] #[])
  fields := #[]
  methods := #[k0m0]
  instanceTypes := #[]
  staticTypes := #[]
  resolved := Array.replicate 124 none
  statics := none }

def pool1 : Array CpInfo := pool [(2, .class_ 4), (1, u "java/lang/Object"), (0, u "<init>"), (0, u "()V"), (0, .integer 2147483647), (0, .class_ 9), (0, u "com/example/tributary/tributary/AccessList$InheritanceType"), (0, .fieldref 8 11), (0, .nameAndType 12 13), (0, u "CHILD_OVERRIDES"), (0, u "Lcom/example/tributary/tributary/AccessList$InheritanceType;"), (0, .fieldref 8 15), (0, .nameAndType 16 13), (0, u "PARENT_OVERRIDES"), (0, .fieldref 8 18), (0, .nameAndType 19 13), (0, u "AND_BOTH_PERMIT"), (0, .class_ 21), (0, u "com/example/tributary/tributary/AccessList$Decision"), (0, .fieldref 20 23), (0, .nameAndType 24 25), (0, u "PERMIT"), (0, u "Lcom/example/tributary/tributary/AccessList$Decision;"), (0, .fieldref 20 27), (0, .nameAndType 28 25), (0, u "DENY"), (0, .fieldref 20 30), (0, .nameAndType 31 25), (0, u "INDETERMINATE"), (0, .methodref 8 33), (0, .nameAndType 34 35), (0, u "combine"), (0, u "(Lcom/example/tributary/tributary/AccessList$Decision;Lcom/example/tributary/tributary/AccessList$Decision;)Lcom/example/tributary/tributary/AccessList$Decision;"), (0, .class_ 37), (0, u "com/example/tributary/tributary/InheritanceTypeCombinePinLaw"), (2, u "law"), (0, u "(III)Z")] 14

def k1m0 : Method := { name := "<init>", desc := "()V", sig := { parameters := [], returnType := none }, accessFlags := 1, code := none }
def k1c1 : Code := { maxStack := 6, maxLocals := 10, code := code, exceptionTable := #[], attributes := #[] }
def k1m1 : Method := { name := "law", desc := "(III)Z", sig := { parameters := [.int, .int, .int], returnType := some .boolean }, accessFlags := 9, code := some k1c1 }
/-- com/example/tributary/tributary/InheritanceTypeCombinePinLaw -/
def k1 : Class := { plain "com/example/tributary/tributary/InheritanceTypeCombinePinLaw" (some 0) with
  accessFlags := 49
  interfaces := #[]
  cf := some (fileOf pool1 36 #[] #[{ accessFlags := 1, nameIndex := 5, descriptorIndex := 6, attributes := #[] }, { accessFlags := 9, nameIndex := 40, descriptorIndex := 41, attributes := #[] }] 49 2 #[] #[])
  fields := #[]
  methods := #[k1m0, k1m1]
  instanceTypes := #[]
  staticTypes := #[]
  resolved := Array.replicate 56 none
  statics := none }

def pool2 : Array CpInfo := pool [(1, .class_ 2), (0, u "java/lang/constant/Constable"), (0, .class_ 4), (0, u "java/lang/Object")] 6

/-- java/lang/constant/Constable -/
def k2 : Class := { plain "java/lang/constant/Constable" (some 0) with
  accessFlags := 1537
  interfaces := #[]
  cf := some (fileOf pool2 1 #[] #[] 1537 3 #[] #[])
  fields := #[]
  methods := #[]
  instanceTypes := #[]
  staticTypes := #[]
  resolved := Array.replicate 11 none
  statics := none }

def pool3 : Array CpInfo := pool [(1, .class_ 2), (0, u "java/lang/Comparable"), (0, .class_ 4), (0, u "java/lang/Object")] 7

/-- java/lang/Comparable -/
def k3 : Class := { plain "java/lang/Comparable" (some 0) with
  accessFlags := 1537
  interfaces := #[]
  cf := some (fileOf pool3 1 #[] #[] 1537 3 #[] #[])
  fields := #[]
  methods := #[]
  instanceTypes := #[]
  staticTypes := #[]
  resolved := Array.replicate 12 none
  statics := none }

def pool4 : Array CpInfo := pool [(1, .class_ 2), (0, u "java/io/Serializable"), (0, .class_ 4), (0, u "java/lang/Object")] 2

/-- java/io/Serializable -/
def k4 : Class := { plain "java/io/Serializable" (some 0) with
  accessFlags := 1537
  interfaces := #[]
  cf := some (fileOf pool4 1 #[] #[] 1537 3 #[] #[])
  fields := #[]
  methods := #[]
  instanceTypes := #[]
  staticTypes := #[]
  resolved := Array.replicate 7 none
  statics := none }

def pool5 : Array CpInfo := pool [(2, .class_ 4), (1, u "java/lang/Enum"), (0, u "name"), (0, u "Ljava/lang/String;"), (0, .fieldref 2 8), (0, .nameAndType 9 10), (0, u "ordinal"), (0, u "I"), (1, .class_ 14), (1, u "java/lang/Object"), (4, u "hash"), (86, .class_ 108), (1, u "java/lang/Enum$EnumDesc"), (2, .class_ 112), (0, u "java/lang/constant/Constable"), (0, .class_ 114), (0, u "java/lang/Comparable"), (0, .class_ 116), (0, u "java/io/Serializable"), (9, u "()I")] 77

def k5c0 : Code := { maxStack := 1, maxLocals := 1, code := jdk_37_method_2_code, exceptionTable := #[], attributes := #[] }
def k5m0 : Method := { name := "ordinal", desc := "()I", sig := { parameters := [], returnType := some .int }, accessFlags := 17, code := some k5c0 }
/-- java/lang/Enum -/
def k5 : Class := { plain "java/lang/Enum" (some 0) with
  accessFlags := 1057
  interfaces := #[2, 3, 4]
  cf := some (fileOf pool5 2 #[.nestMembers #[106]] #[{ accessFlags := 17, nameIndex := 9, descriptorIndex := 126, attributes := #[] }] 1057 12 #[111, 113, 115] #[{ accessFlags := 18, nameIndex := 5, descriptorIndex := 6, attributes := #[] }, { accessFlags := 18, nameIndex := 9, descriptorIndex := 10, attributes := #[] }, { accessFlags := 2, nameIndex := 19, descriptorIndex := 10, attributes := #[] }])
  fields := #[{ name := "name", type := (.object "java/lang/String"), accessFlags := 18, slot := 0, constantValue := 0 }, { name := "ordinal", type := .int, accessFlags := 18, slot := 1, constantValue := 0 }, { name := "hash", type := .int, accessFlags := 2, slot := 2, constantValue := 0 }]
  methods := #[k5m0]
  instanceTypes := #[(.object "java/lang/String"), .int, .int]
  staticTypes := #[]
  resolved := Array.replicate 204 none
  statics := none }

def pool6 : Array CpInfo := pool [(1, .class_ 2), (0, u "com/example/tributary/tributary/AccessList$InheritanceType"), (2, u "CHILD_OVERRIDES"), (0, u "Lcom/example/tributary/tributary/AccessList$InheritanceType;"), (2, u "PARENT_OVERRIDES"), (2, u "AND_BOTH_PERMIT"), (2, u "LEAF_NODE"), (2, u "$VALUES"), (0, u "[Lcom/example/tributary/tributary/AccessList$InheritanceType;"), (6, .class_ 28), (1, u "java/lang/Enum"), (6, .methodref 1 36), (0, .nameAndType 37 38), (0, u "ordinal"), (0, u "()I"), (5, .fieldref 45 46), (0, .class_ 47), (0, .nameAndType 48 49), (0, u "com/example/tributary/tributary/AccessList$Decision"), (0, u "INDETERMINATE"), (0, u "Lcom/example/tributary/tributary/AccessList$Decision;"), (0, .fieldref 45 51), (0, .nameAndType 52 49), (0, u "PERMIT"), (0, .fieldref 45 54), (0, .nameAndType 55 49), (0, u "DENY"), (23, u "combine"), (0, u "(Lcom/example/tributary/tributary/AccessList$Decision;Lcom/example/tributary/tributary/AccessList$Decision;)Lcom/example/tributary/tributary/AccessList$Decision;"), (6, .class_ 88), (0, u "com/example/tributary/tributary/AccessList")] 3

def k6c0 : Code := { maxStack := 4, maxLocals := 3, code := prog_6_method_4_code, exceptionTable := #[], attributes := #[] }
def k6m0 : Method := { name := "combine", desc := "(Lcom/example/tributary/tributary/AccessList$Decision;Lcom/example/tributary/tributary/AccessList$Decision;)Lcom/example/tributary/tributary/AccessList$Decision;", sig := { parameters := [(.object "com/example/tributary/tributary/AccessList$Decision"), (.object "com/example/tributary/tributary/AccessList$Decision")], returnType := some (.object "com/example/tributary/tributary/AccessList$Decision") }, accessFlags := 0, code := some k6c0 }
/-- com/example/tributary/tributary/AccessList$InheritanceType -/
def k6 : Class := { plain "com/example/tributary/tributary/AccessList$InheritanceType" (some 5) with
  accessFlags := 16432
  interfaces := #[]
  cf := some (fileOf pool6 1 #[.nestHost 87] #[{ accessFlags := 0, nameIndex := 79, descriptorIndex := 80, attributes := #[] }] 16432 26 #[] #[{ accessFlags := 16409, nameIndex := 5, descriptorIndex := 6, attributes := #[] }, { accessFlags := 16409, nameIndex := 9, descriptorIndex := 6, attributes := #[] }, { accessFlags := 16409, nameIndex := 12, descriptorIndex := 6, attributes := #[] }, { accessFlags := 16409, nameIndex := 15, descriptorIndex := 6, attributes := #[] }, { accessFlags := 4122, nameIndex := 18, descriptorIndex := 19, attributes := #[] }])
  fields := #[{ name := "CHILD_OVERRIDES", type := (.object "com/example/tributary/tributary/AccessList$InheritanceType"), accessFlags := 16409, slot := 0, constantValue := 0 }, { name := "PARENT_OVERRIDES", type := (.object "com/example/tributary/tributary/AccessList$InheritanceType"), accessFlags := 16409, slot := 1, constantValue := 0 }, { name := "AND_BOTH_PERMIT", type := (.object "com/example/tributary/tributary/AccessList$InheritanceType"), accessFlags := 16409, slot := 2, constantValue := 0 }, { name := "LEAF_NODE", type := (.object "com/example/tributary/tributary/AccessList$InheritanceType"), accessFlags := 16409, slot := 3, constantValue := 0 }, { name := "$VALUES", type := (.array (.object "com/example/tributary/tributary/AccessList$InheritanceType")), accessFlags := 4122, slot := 4, constantValue := 0 }]
  methods := #[k6m0]
  instanceTypes := #[(.object "java/lang/String"), .int, .int]
  staticTypes := #[(.object "com/example/tributary/tributary/AccessList$InheritanceType"), (.object "com/example/tributary/tributary/AccessList$InheritanceType"), (.object "com/example/tributary/tributary/AccessList$InheritanceType"), (.object "com/example/tributary/tributary/AccessList$InheritanceType"), (.array (.object "com/example/tributary/tributary/AccessList$InheritanceType"))]
  resolved := Array.replicate 92 none
  statics := some 0 }

def pool7 : Array CpInfo := pool [(1, .class_ 2), (0, u "com/example/tributary/tributary/AccessList$Decision"), (2, u "PERMIT"), (0, u "Lcom/example/tributary/tributary/AccessList$Decision;"), (2, u "DENY"), (2, u "INDETERMINATE"), (2, u "$VALUES"), (0, u "[Lcom/example/tributary/tributary/AccessList$Decision;"), (6, .class_ 25), (1, u "java/lang/Enum"), (26, .class_ 53), (0, u "com/example/tributary/tributary/AccessList")] 2

/-- com/example/tributary/tributary/AccessList$Decision -/
def k7 : Class := { plain "com/example/tributary/tributary/AccessList$Decision" (some 5) with
  accessFlags := 16432
  interfaces := #[]
  cf := some (fileOf pool7 1 #[.nestHost 52] #[] 16432 23 #[] #[{ accessFlags := 16409, nameIndex := 5, descriptorIndex := 6, attributes := #[] }, { accessFlags := 16409, nameIndex := 9, descriptorIndex := 6, attributes := #[] }, { accessFlags := 16409, nameIndex := 12, descriptorIndex := 6, attributes := #[] }, { accessFlags := 4122, nameIndex := 15, descriptorIndex := 16, attributes := #[] }])
  fields := #[{ name := "PERMIT", type := (.object "com/example/tributary/tributary/AccessList$Decision"), accessFlags := 16409, slot := 0, constantValue := 0 }, { name := "DENY", type := (.object "com/example/tributary/tributary/AccessList$Decision"), accessFlags := 16409, slot := 1, constantValue := 0 }, { name := "INDETERMINATE", type := (.object "com/example/tributary/tributary/AccessList$Decision"), accessFlags := 16409, slot := 2, constantValue := 0 }, { name := "$VALUES", type := (.array (.object "com/example/tributary/tributary/AccessList$Decision")), accessFlags := 4122, slot := 3, constantValue := 0 }]
  methods := #[]
  instanceTypes := #[(.object "java/lang/String"), .int, .int]
  staticTypes := #[(.object "com/example/tributary/tributary/AccessList$Decision"), (.object "com/example/tributary/tributary/AccessList$Decision"), (.object "com/example/tributary/tributary/AccessList$Decision"), (.array (.object "com/example/tributary/tributary/AccessList$Decision"))]
  resolved := Array.replicate 56 none
  statics := some 1 }

def pool8 : Array CpInfo := pool [(1, u "java/lang/Cloneable"), (0, .class_ 1), (0, u "java/lang/Object"), (0, .class_ 3)] 3

/-- java/lang/Cloneable -/
def k8 : Class := { plain "java/lang/Cloneable" (some 0) with
  accessFlags := 1537
  interfaces := #[]
  cf := some (fileOf pool8 2 #[] #[] 1537 4 #[] #[])
  fields := #[]
  methods := #[]
  instanceTypes := #[]
  staticTypes := #[]
  resolved := Array.replicate 8 none
  statics := none }

/-- the primitive byte -/
def k9 : Class := { plain "byte" none with kind := .primitive 'B', accessFlags := 0x411 }
/-- [B -/
def k10 : Class := { plain "[B" (some 0) with kind := .array 9 .byte, interfaces := #[8, 4], accessFlags := 1041 }

/-- the primitive int -/
def k11 : Class := { plain "int" none with kind := .primitive 'I', accessFlags := 0x411 }
/-- [I -/
def k12 : Class := { plain "[I" (some 0) with kind := .array 11 .int, interfaces := #[8, 4], accessFlags := 1041 }

/-- [Lcom/example/tributary/tributary/AccessList$Decision; -/
def k13 : Class := { plain "[Lcom/example/tributary/tributary/AccessList$Decision;" (some 0) with kind := .array 7 (.object "com/example/tributary/tributary/AccessList$Decision"), interfaces := #[8, 4], accessFlags := 1041 }

/-- [Lcom/example/tributary/tributary/AccessList$InheritanceType; -/
def k14 : Class := { plain "[Lcom/example/tributary/tributary/AccessList$InheritanceType;" (some 0) with kind := .array 6 (.object "com/example/tributary/tributary/AccessList$InheritanceType"), interfaces := #[8, 4], accessFlags := 1041 }

def heap : Heap := #[{ cls := 6, slots := #[.ref 2, .ref 3, .ref 4, .null, .null], vm := .statics 6 },
  { cls := 7, slots := #[.ref 5, .ref 6, .ref 7, .null], vm := .statics 7 },
  { cls := 6, slots := #[.null, .int 0, .int 0], vm := .none },
  { cls := 6, slots := #[.null, .int 1, .int 0], vm := .none },
  { cls := 6, slots := #[.null, .int 2, .int 0], vm := .none },
  { cls := 7, slots := #[.null, .int 0, .int 0], vm := .none },
  { cls := 7, slots := #[.null, .int 1, .int 0], vm := .none },
  { cls := 7, slots := #[.null, .int 2, .int 0], vm := .none }]
def classes : Array Class := #[k0, k1, k2, k3, k4, k5, k6, k7, k8, k9, k10, k11, k12, k13, k14]
def interned : List (Array UInt16 × Addr) := []
def slotsUsed : Nat := 27
def theMethod : MethodId := ⟨1, 1⟩
def args0 : Array Value := #[.int 5, .int 2, .int 1]
def aboutOver (below : List Frame) : State where
  vm := { classes := classes, interned := interned.toArray }
  heap := heap
  slotsUsed := slotsUsed
  threads := #[{ frames := .invoking theMethod args0 :: below }]
def below0 : List Frame := [.native { method := ⟨0, 0⟩, args := #[] }]
def about1 : State := aboutOver below0
def p0 : Program := .bare "" "" ""
def e0 : Env := launch0.env 0 0 0
theorem w_frames : about1.frames = Frame.invoking theMethod args0 :: below0 := rfl
set_option maxRecDepth 65536 in
theorem w_args : argsFit about1.vm theMethod args0 = true := by decide +kernel
set_option maxRecDepth 65536 in
theorem w_heap : heapFits about1 = true := by decide +kernel
set_option maxRecDepth 65536 in
theorem w_runnable : about1.curStatus? = some .runnable := by decide +kernel
set_option maxRecDepth 65536 in
theorem w_alone : about1.alone = true := by decide +kernel
set_option maxRecDepth 65536 in
theorem w_named : about1.methodNamed? x = some theMethod := by decide +kernel
set_option maxRecDepth 65536 in
theorem w_hears : about1.hears theMethod below0 = true := by decide +kernel
set_option maxRecDepth 65536 in
theorem w_ripe : about1.ripe theMethod args0 below0 = true := by decide +kernel
theorem w_running : about1.status = .running := rfl
set_option maxRecDepth 65536 in
theorem w_room : about1.hasRoom e0.platform room_1 = true :=
  launch0.hasRoom_least _ room_1 (by decide +kernel) (by decide +kernel) (by decide +kernel) (by decide +kernel) (by decide +kernel) (by decide +kernel)
theorem allAtoms_all (ts : List Jvm.Cond) (a : Array Jvm.Value) (st : Jvm.State) : (allAtoms ts).before a st = ts.all (fun c => c.before a st) := by
  induction ts with
  | nil => rfl
  | cons c t ih =>
    show (Jvm.Cond.and c (allAtoms t)).before a st = _
    rw [Jvm.Cond.before_and, ih, List.all_cons]
def words1 : List Jvm.Cond := Jvm.Cond.code x code maxLocals ret :: tables_1
/-- a 'code' word, met by the world's own term for the bytes: nothing is compared byte by byte -/
theorem code_word {y : MethodName} {bytes : ByteArray} {mx : Nat} {rt : Option FieldType} {a : Array Value} {s : State} {m : MethodId} {meth : Method} {c : Code} (h1 : s.methodNamed? y = some m) (h2 : s.vm.method? m = some meth) (h3 : meth.code = some c) (h4 : c.code = bytes)
    (h5 : (c.maxLocals == mx && c.exceptionTable.isEmpty && decide (c.maxStack ≤ mostOperands) && decide (meth.sig.returnType = rt) && !meth.locks && decide (parseMethodDescriptor y.desc = some meth.sig)) = true) : (Jvm.Cond.code y bytes mx rt).before a s = true := by
  simp only [Bool.and_eq_true, beq_iff_eq, Bool.not_eq_true', decide_eq_true_eq] at h5
  obtain ⟨⟨⟨⟨⟨g1, g2⟩, g3⟩, g4⟩, g5⟩, g6⟩ := h5
  simp [Cond.before, Cond.holds, Cond.value, h1, h2, h3, h4, g1, g2, g3, g4, g5, g6]
def isCode : Jvm.Cond → Bool
  | .code _ _ _ _ => true
  | _ => false
theorem all_split {L : List Jvm.Cond} {P : Jvm.Cond → Bool} (h1 : L.all (fun c => isCode c || P c) = true) (h2 : ∀ c ∈ L.filter isCode, P c = true) : L.all P = true := by
  refine List.all_eq_true.mpr fun c hc => ?_
  have h := List.all_eq_true.mp h1 c hc
  rcases Bool.eq_false_or_eq_true (isCode c) with hi | hi
  · exact h2 c (List.mem_filter.mpr ⟨hc, hi⟩)
  · simpa [hi] using h
set_option maxRecDepth 65536 in
theorem w_c0 : (Jvm.Cond.code x code maxLocals ret).before args0 about1 = true := code_word (m := ⟨1, 1⟩) (meth := k1m1) (c := k1c1) (by decide +kernel) rfl rfl rfl (by decide +kernel)
set_option maxRecDepth 65536 in
theorem w_c1 : (Jvm.Cond.code ({ cls := "com/example/tributary/tributary/AccessList$InheritanceType", name := "combine", desc := "(Lcom/example/tributary/tributary/AccessList$Decision;Lcom/example/tributary/tributary/AccessList$Decision;)Lcom/example/tributary/tributary/AccessList$Decision;" } : Jvm.MethodName) prog_6_method_4_code (3 : Nat) (Option.some (Jvm.ClassFile.FieldType.object "com/example/tributary/tributary/AccessList$Decision"))).before args0 about1 = true := code_word (m := ⟨6, 0⟩) (meth := k6m0) (c := k6c0) (by decide +kernel) rfl rfl rfl (by decide +kernel)
set_option maxRecDepth 65536 in
theorem w_c2 : (Jvm.Cond.code ({ cls := "java/lang/Enum", name := "ordinal", desc := "()I" } : Jvm.MethodName) jdk_37_method_2_code (1 : Nat) (Option.some Jvm.ClassFile.FieldType.int)).before args0 about1 = true := code_word (m := ⟨5, 0⟩) (meth := k5m0) (c := k5c0) (by decide +kernel) rfl rfl rfl (by decide +kernel)
def codes1 : List Jvm.Cond := [Jvm.Cond.code x code maxLocals ret, Jvm.Cond.code ({ cls := "com/example/tributary/tributary/AccessList$InheritanceType", name := "combine", desc := "(Lcom/example/tributary/tributary/AccessList$Decision;Lcom/example/tributary/tributary/AccessList$Decision;)Lcom/example/tributary/tributary/AccessList$Decision;" } : Jvm.MethodName) prog_6_method_4_code (3 : Nat) (Option.some (Jvm.ClassFile.FieldType.object "com/example/tributary/tributary/AccessList$Decision")), Jvm.Cond.code ({ cls := "java/lang/Enum", name := "ordinal", desc := "()I" } : Jvm.MethodName) jdk_37_method_2_code (1 : Nat) (Option.some Jvm.ClassFile.FieldType.int)]
set_option maxRecDepth 65536 in
theorem codes_eq : words1.filter isCode = codes1 := rfl
theorem w_codes : ∀ c ∈ words1.filter isCode, c.before args0 about1 = true := by
  rw [codes_eq]
  intro c hc
  simp only [codes1, List.mem_cons, List.not_mem_nil, or_false] at hc
  rcases hc with rfl | rfl | rfl
  · exact w_c0
  · exact w_c1
  · exact w_c2
set_option maxRecDepth 65536 in
theorem w_t1 : (words1.take 24).all (fun c => isCode c || c.before args0 about1) = true := by decide +kernel
set_option maxRecDepth 65536 in
theorem w_t2 : (words1.drop 24).all (fun c => isCode c || c.before args0 about1) = true := by decide +kernel
theorem w_tables : (allAtoms (Jvm.Cond.code x code maxLocals ret :: tables_1)).before args0 about1 = true := by
  rw [allAtoms_all]
  show words1.all (fun c => c.before args0 about1) = true
  refine all_split ?_ w_codes
  rw [← List.take_append_drop 24 words1, List.all_append, w_t1, w_t2]
  rfl
set_option maxRecDepth 65536 in
theorem w_case : (Jvm.Cond.and given_1 narrow_1).before args0 about1 = true := by decide +kernel
theorem w_applies : (headSpec (Jvm.Cond.code x code maxLocals ret :: tables_1) room_1).applies x e0.platform about1 = true :=
  (Spec.applies_iff w_frames).mpr ⟨w_running, w_runnable, w_alone, w_named, w_hears, w_ripe, w_room, w_tables⟩
theorem atStart : AtStart classFile x code maxLocals ret World_1 tables_1 room_1 Calls_1 rest_1 Pre_1 launch0 p0 e0 about1 theMethod args0 below0 :=
  ⟨lists_1, trivial, launch0.admits_env _ _ _, launch0.least_env, fairChoices_fair.cas, fairChoices_fair.clock, w_frames, w_args, w_heap, w_applies, trivial, trivial, w_case⟩
end start1
theorem witness_1 : WitnessClaimed_1 := ⟨start1.p0, start1.e0, start1.about1, start1.theMethod, start1.args0, start1.below0, start1.atStart⟩
end Jvm.Pilot.@@N@@
