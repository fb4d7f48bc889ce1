import JvmDerived
import JvmDerived.Pilot.@@N@@Statement
import JvmDerived.Pilot.@@N@@Code
set_option linter.unusedVariables false
set_option linter.unusedSimpArgs false
namespace Jvm.RoadKit
open Sem ClassFile Op Lib Jvm.Stand Jvm.Free Jvm.LawKit
section New
variable {p : Program} {l : Launch} {e : Env} {R : Room} {s : State} {m : MethodId} {args : Array Value} {below : List Frame} {meth : Method} {c : Code} {T : State} {locs : List Loc} {cells slots : Nat}
theorem retI (X : Stand p l e R s m args below meth c T locs cells slots) (hx : p.tables.exec = Jvm.exec) {pc : Nat} {Ls : Array Slot} {z : Int32} {rest : List Value} (hret : meth.sig.returnType = some .int) (hd : decode c.code pc = .ok (.ireturn, 1)) {fs : List Frame}
    (hl : ∀ (f : JFrame) (acts : List Action), f.method = m → f.locked = none → f.entered = [] → (doReturn e (T.setTop f) acts (some (.int z))).1 = T.setFrames fs) : Steps p.tables e below (T.setTop (mkF m pc Ls (.int z :: rest))) (T.setFrames fs) := by
  have hm' : T.vm.method? m = some meth := X.method'
  have hn : narrow .int (.int z) = .int z := rfl
  show Steps p.tables e below (T.setTop { method := m, pc := pc, locals := Ls, stack := _ :: rest, locked := none }) _
  jvm_step X.here [X.here.top, hx, hd, hm', hret, hn]
  first | (intro acts; rw [hl _ acts rfl rfl rfl]) | rw [hl _ _ rfl rfl rfl]
  exact Steps.refl _
end New
end Jvm.RoadKit
namespace Jvm.Pilot.@@N@@
open Jvm Jvm.ClassFile Sem Op Lib Jvm.Free Jvm.Stand Jvm.LawKit Jvm.RoadKit Bundle Jvm.Pilot.@@N@@.Jvm.D
/-! small facts of my own -/
theorem own_fld {args : Array Value} {s : State} {t : Term} {a : Addr} {C n d : String} {k : Int32} (ev : t.eval args s none [] s = some (.ref a)) (h : (Jvm.Cond.eq (.field t C n d) (.int k)).value args s none s [] = some true) : Fld s s.heap a C n d (.int k) := by
  refine Fld.start ?_
  have h2 : (Term.field t C n d).eval args s none [] s = s.fieldOf? a C n d := by simp [Term.eval, ev]
  obtain ⟨x, y, e1, e2, k1, k2⟩ := cmp_v (Or.inl h)
  have e3 : y = .int k := (Option.some.inj e2).symm
  subst e3
  obtain ⟨z, rfl⟩ := k2
  have e4 : z = k := by simpa [Jvm.Cond.value, e1, e2] using h
  rw [← h2, e1, e4]
theorem own_leT {k : Nat} {T : State} {h : Heap} (e : T.heap = h) (hk : k ≤ h.size) : k ≤ T.heap.size := by rw [e]; exact hk
theorem own_lcmp0 {x : Int64} : lcmpW x x = 0 := (lw_eq x x).mpr rfl
theorem own_lt {x j k : Int32} (h : x < j) (q : ¬ k < j) : x < k := by rw [Int32.lt_iff_toInt_lt] at *; omega
theorem own_gt {x j k : Int32} (h : j < x) (q : ¬ j < k) : k < x := by rw [Int32.lt_iff_toInt_lt] at *; omega
theorem own_nlt {x j k : Int32} (h : j < x) (q : ¬ j.toInt + 1 < k.toInt) : ¬ x < k := by rw [Int32.lt_iff_toInt_lt] at *; omega
theorem own_ngt {x j k : Int32} (h : x < j) (q : ¬ k.toInt + 1 < j.toInt) : ¬ k < x := by rw [Int32.lt_iff_toInt_lt] at *; omega
theorem own_nelo {x j k : Int32} (h : j < x) (q : ¬ j < k) : ¬ x = k := fun e => by subst e; exact q h
theorem own_nehi {x j k : Int32} (h : x < j) (q : ¬ k < j) : ¬ x = k := fun e => by subst e; exact q h
theorem own_ilt {x k : Int32} {z : Int} (e : k.toInt = z) (h : x.toInt < z) : x < k := by rw [Int32.lt_iff_toInt_lt, e]; exact h
theorem own_igt {x k : Int32} {z : Int} (e : k.toInt = z) (h : z < x.toInt) : k < x := by rw [Int32.lt_iff_toInt_lt, e]; exact h
theorem own_ne {Z : State} {h : Heap} {a b : Addr} {C n d : String} {v w : Value} (F : Fld Z h a C n d v) (G : Fld Z h b C n d w) (hn : v ≠ w) : ¬ (a = b) := fun e => by
  subst e
  obtain ⟨c1, f1, k1, i1, g1, h1, h2, -, -, -, -, h7⟩ := F
  obtain ⟨c2, f2, k2, i2, g2, j1, j2, -, -, -, -, j7⟩ := G
  cases h1.symm.trans j1
  cases h2.symm.trans j2
  exact hn (Option.some.inj (h7.symm.trans j7))

theorem own_sta_keep {Z : State} {h h' : Heap} {C n d : String} {v : Value} (F : Sta Z h C n d v) (K : Keep h h' []) : Sta Z h' C n d v := by
  obtain ⟨cf, i, k, f, st, cell, h1, h2, h3, h4, h5, r⟩ := F
  exact ⟨cf, i, k, f, st, cell, h1, h2, h3, h4, K.2.1 _ _ h5 nin0, r⟩
theorem own_sta_keep1 {Z : State} {h h' : Heap} {C n d K' : String} {v : Value} {b : Addr} (F : Sta Z h C n d v) (K : Keep h h' [b]) (E : Exa Z h b K') : Sta Z h' C n d v := by
  obtain ⟨cf, i, k, f, st, cell, h1, h2, h3, h4, h5, h6, r⟩ := F
  obtain ⟨c2, k2, e1, -, -, e4, -⟩ := E
  refine ⟨cf, i, k, f, st, cell, h1, h2, h3, h4, K.2.1 _ _ h5 (ninS (fun q => ?_) nin0), h6, r⟩
  subst q
  cases h5.symm.trans e1
  rw [h6] at e4; cases e4
section OwnArr
variable {p : Program} {l : Launch} {e : Env} {R : Room} {s : State} {m : MethodId} {args : Array Value} {below : List Frame} {meth : Method} {c : Code} {T : State} {locs : List Loc} {cells slots : Nat} {Z : State} {h : Heap}
theorem own_stI (X : Stand p l e R s m args below meth c T locs cells slots) (hx : p.tables.exec = Jvm.exec) (hZ : Z.Warmed39 s.vm) (eT : T.heap = h) {a : Addr} {k : ClassId} {z j x : Int32} {vs : List Value} {d : Value} (V : Arv Z h a k .int z vs d) (i : Nat) (hj : j.toNatClampNeg = i) (hin : ¬ j < 0 ∧ j < z) (hi : i < vs.length) {g : JFrame} (hg : g.method = m) {rest : List Value} (hs : g.stack = .int x :: .int j :: .ref a :: rest) (hd : decode c.code g.pc = .ok (.iastore, 1)) :
    ∃ T' h', Stand p l e R s m args below meth c T' (locs ++ [⟨a, j.toNatClampNeg⟩]) cells slots ∧ T'.heap = h' ∧ Wr h h' a j.toNatClampNeg (.int x) ∧ Arv Z h' a k .int z (vs.set i (.int x)) d ∧ ∀ target, Steps p.tables e below (T'.setTop { g with pc := g.pc + 1, stack := rest }) target → Steps p.tables e below (T.setTop g) target := by
  obtain ⟨cl, A, q1, S, q3, H, G⟩ := V
  obtain ⟨T', h', X', e', W, st⟩ := stI X hx hZ eT A (j := j) (inb_of S hin) hg hs hd
  exact ⟨T', h', X', e', W, Arv.set A q1 S q3 H G rfl W i hj hi, st⟩
theorem own_stR (X : Stand p l e R s m args below meth c T locs cells slots) (hx : p.tables.exec = Jvm.exec) (hZ : Z.Warmed39 s.vm) (eT : T.heap = h) {a y : Addr} {k : ClassId} {z j : Int32} {vs : List Value} {d : Value} {C : String} (V : Arv Z h a k (.object C) z vs d) (O : Ovr Z k C) (I : Ins Z h y C true) (i : Nat) (hj : j.toNatClampNeg = i) (hin : ¬ j < 0 ∧ j < z) (hi : i < vs.length) {g : JFrame} (hg : g.method = m) {rest : List Value} (hs : g.stack = .ref y :: .int j :: .ref a :: rest) (hd : decode c.code g.pc = .ok (.aastore, 1)) :
    ∃ T' h', Stand p l e R s m args below meth c T' (locs ++ [⟨a, j.toNatClampNeg⟩]) cells slots ∧ T'.heap = h' ∧ Wr h h' a j.toNatClampNeg (.ref y) ∧ Arv Z h' a k (.object C) z (vs.set i (.ref y)) d ∧ ∀ target, Steps p.tables e below (T'.setTop { g with pc := g.pc + 1, stack := rest }) target → Steps p.tables e below (T.setTop g) target := by
  obtain ⟨cl, A, q1, S, q3, H, G⟩ := V
  obtain ⟨T', h', X', e', W, st⟩ := stR X hx hZ eT A (j := j) (inb_of S hin) rfl (Sto.ofV A q1 O I) hg hs hd
  exact ⟨T', h', X', e', W, Arv.set A q1 S q3 H G rfl W i hj hi, st⟩
theorem own_ldI (X : Stand p l e R s m args below meth c T locs cells slots) (hx : p.tables.exec = Jvm.exec) (hZ : Z.Warmed39 s.vm) (eT : T.heap = h) {a : Addr} {k : ClassId} {z j : Int32} {vs : List Value} {d v : Value} (V : Arv Z h a k .int z vs d) (hin : ¬ j < 0 ∧ j < z) (hv : vs.getD j.toNatClampNeg d = v) {g : JFrame} (hg : g.method = m) {rest : List Value} (hs : g.stack = .int j :: .ref a :: rest) (hd : decode c.code g.pc = .ok (.iaload, 1)) :
    ∀ target, Steps p.tables e below (T.setTop { g with pc := g.pc + 1, stack := v :: rest }) target → Steps p.tables e below (T.setTop g) target := by
  obtain ⟨cl, A, q1, S, q3, H, G⟩ := V
  have hin' := inb_of S hin
  exact X.iaload hx (by rw [eT]; exact A.1) (State.isArrayOf_alike hZ.alike A.2.1) A.2.2 hin' (H.at hin' hv) hg hs hd
theorem own_ldR (X : Stand p l e R s m args below meth c T locs cells slots) (hx : p.tables.exec = Jvm.exec) (hZ : Z.Warmed39 s.vm) (eT : T.heap = h) {a : Addr} {k : ClassId} {z j : Int32} {vs : List Value} {d v : Value} {C : String} (V : Arv Z h a k (.object C) z vs d) (hin : ¬ j < 0 ∧ j < z) (hv : vs.getD j.toNatClampNeg d = v) {g : JFrame} (hg : g.method = m) {rest : List Value} (hs : g.stack = .int j :: .ref a :: rest) (hd : decode c.code g.pc = .ok (.aaload, 1)) :
    ∀ target, Steps p.tables e below (T.setTop { g with pc := g.pc + 1, stack := v :: rest }) target → Steps p.tables e below (T.setTop g) target := by
  obtain ⟨cl, A, q1, S, q3, H, G⟩ := V
  have hin' := inb_of S hin
  exact X.aaload hx (by rw [eT]; exact A.1) (State.isArrayOf_alike hZ.alike A.2.1) rfl A.2.2 hin' (H.at hin' hv) hg hs hd
end OwnArr

theorem d1_0 : decode prog_202_method_4_code 0 = .ok (.aload_n 0, 1) := by decide +kernel
theorem d1_1 : decode prog_202_method_4_code 1 = .ok (.getfield 50, 3) := by decide +kernel
theorem d1_4 : decode prog_202_method_4_code 4 = .ok (.ireturn, 1) := by decide +kernel
theorem pn_1 : plainName "com/example/epochcast/epochcast/server/Txn$Type" = true := by first | (simp [plainName, overriddenIn]; done) | decide +kernel
theorem pd___I : parseMethodDescriptor "()I" = some ⟨[], some .int⟩ := by decide +kernel
theorem d2_0 : decode prog_202_method_6_code 0 = .ok (.aload_n 0, 1) := by decide +kernel
theorem d2_1 : decode prog_202_method_6_code 1 = .ok (.getstatic 3, 3) := by decide +kernel
theorem d2_4 : decode prog_202_method_6_code 4 = .ok (.if_acmp .eq 24, 3) := by decide +kernel
theorem d2_28 : decode prog_202_method_6_code 28 = .ok (.iconst 1, 1) := by decide +kernel
theorem d2_29 : decode prog_202_method_6_code 29 = .ok (.goto 4, 3) := by decide +kernel
theorem d2_33 : decode prog_202_method_6_code 33 = .ok (.ireturn, 1) := by decide +kernel
theorem pn_2 : plainName "com/example/epochcast/epochcast/server/Txn$Type" = true := by first | (simp [plainName, overriddenIn]; done) | decide +kernel
theorem pd___Z : parseMethodDescriptor "()Z" = some ⟨[], some .boolean⟩ := by decide +kernel
theorem d3_0 : decode prog_202_method_5_code 0 = .ok (.aload_n 0, 1) := by decide +kernel
theorem d3_1 : decode prog_202_method_5_code 1 = .ok (.getstatic 22, 3) := by decide +kernel
theorem d3_4 : decode prog_202_method_5_code 4 = .ok (.if_acmp .eq 17, 3) := by decide +kernel
theorem d3_7 : decode prog_202_method_5_code 7 = .ok (.aload_n 0, 1) := by decide +kernel
theorem d3_8 : decode prog_202_method_5_code 8 = .ok (.getstatic 25, 3) := by decide +kernel
theorem d3_11 : decode prog_202_method_5_code 11 = .ok (.if_acmp .eq 10, 3) := by decide +kernel
theorem d3_14 : decode prog_202_method_5_code 14 = .ok (.aload_n 0, 1) := by decide +kernel
theorem d3_15 : decode prog_202_method_5_code 15 = .ok (.getstatic 28, 3) := by decide +kernel
theorem d3_18 : decode prog_202_method_5_code 18 = .ok (.if_acmp .ne 7, 3) := by decide +kernel
theorem d3_25 : decode prog_202_method_5_code 25 = .ok (.iconst 0, 1) := by decide +kernel
theorem d3_26 : decode prog_202_method_5_code 26 = .ok (.ireturn, 1) := by decide +kernel
theorem pn_3 : plainName "com/example/epochcast/epochcast/server/Txn$Type" = true := by first | (simp [plainName, overriddenIn]; done) | decide +kernel
theorem d2_7 : decode prog_202_method_6_code 7 = .ok (.aload_n 0, 1) := by decide +kernel
theorem d2_8 : decode prog_202_method_6_code 8 = .ok (.getstatic 7, 3) := by decide +kernel
theorem d2_11 : decode prog_202_method_6_code 11 = .ok (.if_acmp .eq 17, 3) := by decide +kernel
theorem d2_14 : decode prog_202_method_6_code 14 = .ok (.aload_n 0, 1) := by decide +kernel
theorem d2_15 : decode prog_202_method_6_code 15 = .ok (.getstatic 10, 3) := by decide +kernel
theorem d2_18 : decode prog_202_method_6_code 18 = .ok (.if_acmp .eq 10, 3) := by decide +kernel
theorem d2_21 : decode prog_202_method_6_code 21 = .ok (.aload_n 0, 1) := by decide +kernel
theorem d2_22 : decode prog_202_method_6_code 22 = .ok (.getstatic 16, 3) := by decide +kernel
theorem d2_25 : decode prog_202_method_6_code 25 = .ok (.if_acmp .ne 7, 3) := by decide +kernel
theorem d2_32 : decode prog_202_method_6_code 32 = .ok (.iconst 0, 1) := by decide +kernel
theorem pn_0 : plainName "com/example/epochcast/epochcast/server/TypeIsOperationPinLaw" = true := by first | (simp [plainName, overriddenIn]; done) | decide +kernel
theorem own_split9 {x : Int32} (h0 : 0 ≤ x.toInt) (h1 : x.toInt < 9) : x = (0 : Int32) ∨ x = (1 : Int32) ∨ x = (2 : Int32) ∨ x = (3 : Int32) ∨ x = (4 : Int32) ∨ x = (5 : Int32) ∨ x = (6 : Int32) ∨ x = (7 : Int32) ∨ x = (8 : Int32) := by
  have h : x.toInt = 0 ∨ x.toInt = 1 ∨ x.toInt = 2 ∨ x.toInt = 3 ∨ x.toInt = 4 ∨ x.toInt = 5 ∨ x.toInt = 6 ∨ x.toInt = 7 ∨ x.toInt = 8 := by omega
  rcases h with h | h | h | h | h | h | h | h | h
  · exact Or.inl (Int32.toInt_inj.mp (h.trans (by decide)))
  · exact Or.inr (Or.inl (Int32.toInt_inj.mp (h.trans (by decide))))
  · exact Or.inr (Or.inr (Or.inl (Int32.toInt_inj.mp (h.trans (by decide)))))
  · exact Or.inr (Or.inr (Or.inr (Or.inl (Int32.toInt_inj.mp (h.trans (by decide))))))
  · exact Or.inr (Or.inr (Or.inr (Or.inr (Or.inl (Int32.toInt_inj.mp (h.trans (by decide)))))))
  · exact Or.inr (Or.inr (Or.inr (Or.inr (Or.inr (Or.inl (Int32.toInt_inj.mp (h.trans (by decide))))))))
  · exact Or.inr (Or.inr (Or.inr (Or.inr (Or.inr (Or.inr (Or.inl (Int32.toInt_inj.mp (h.trans (by decide)))))))))
  · exact Or.inr (Or.inr (Or.inr (Or.inr (Or.inr (Or.inr (Or.inr (Or.inl (Int32.toInt_inj.mp (h.trans (by decide))))))))))
  · exact Or.inr (Or.inr (Or.inr (Or.inr (Or.inr (Or.inr (Or.inr (Or.inr (Int32.toInt_inj.mp (h.trans (by decide))))))))))
set_option maxRecDepth 65536 in
set_option maxHeartbeats 40000000 in
theorem pc0_pre {p : Program} {l : Launch} {e : Env} {s : State} {m : MethodId} {args : Array Value} {below : List Frame} {meth : Method} {c : Code} {T0 : State} {locs : List Loc} {Z : State} {a0 : Array Value} {h0 : Heap} {n0 : Nat} (p1 : Int32) (w_CREATE : Addr) (w_DELETE : Addr) (w_SET_DATA : Addr) (w_SET_ACL : Addr) (w_CHECK : Addr) (w_MULTI : Addr) (w_CREATE_SESSION : Addr) (w_CLOSE_SESSION : Addr) (w_AUTH : Addr)
    (X0 : Stand p l e room_1 s m args below meth c T0 locs 0 0) (hx : p.tables.exec = Jvm.exec) (hZ : Z.Warmed39 s.vm) (hw : ∀ d ∈ tables_1, d.before a0 Z = true) (hby : c.code = code) (hml : c.maxLocals = 7) (hown : s.vm.findClass "com/example/epochcast/epochcast/server/TypeIsOperationPinLaw" = some m.cls) (e0 : T0.heap = h0) (Z0 : n0 ≤ h0.size) (N0 : Fr n0 locs) (S_CREATE : Sta Z h0 "com/example/epochcast/epochcast/server/Txn$Type" "CREATE" "Lcom/example/epochcast/epochcast/server/Txn$Type;" (.ref w_CREATE)) (E_w_CREATE : Exa Z h0 w_CREATE "com/example/epochcast/epochcast/server/Txn$Type") (S_DELETE : Sta Z h0 "com/example/epochcast/epochcast/server/Txn$Type" "DELETE" "Lcom/example/epochcast/epochcast/server/Txn$Type;" (.ref w_DELETE)) (E_w_DELETE : Exa Z h0 w_DELETE "com/example/epochcast/epochcast/server/Txn$Type") (S_SET_DATA : Sta Z h0 "com/example/epochcast/epochcast/server/Txn$Type" "SET_DATA" "Lcom/example/epochcast/epochcast/server/Txn$Type;" (.ref w_SET_DATA)) (E_w_SET_DATA : Exa Z h0 w_SET_DATA "com/example/epochcast/epochcast/server/Txn$Type") (S_SET_ACL : Sta Z h0 "com/example/epochcast/epochcast/server/Txn$Type" "SET_ACL" "Lcom/example/epochcast/epochcast/server/Txn$Type;" (.ref w_SET_ACL)) (E_w_SET_ACL : Exa Z h0 w_SET_ACL "com/example/epochcast/epochcast/server/Txn$Type") (S_CHECK : Sta Z h0 "com/example/epochcast/epochcast/server/Txn$Type" "CHECK" "Lcom/example/epochcast/epochcast/server/Txn$Type;" (.ref w_CHECK)) (E_w_CHECK : Exa Z h0 w_CHECK "com/example/epochcast/epochcast/server/Txn$Type") (S_MULTI : Sta Z h0 "com/example/epochcast/epochcast/server/Txn$Type" "MULTI" "Lcom/example/epochcast/epochcast/server/Txn$Type;" (.ref w_MULTI)) (E_w_MULTI : Exa Z h0 w_MULTI "com/example/epochcast/epochcast/server/Txn$Type") (S_CREATE_SESSION : Sta Z h0 "com/example/epochcast/epochcast/server/Txn$Type" "CREATE_SESSION" "Lcom/example/epochcast/epochcast/server/Txn$Type;" (.ref w_CREATE_SESSION)) (E_w_CREATE_SESSION : Exa Z h0 w_CREATE_SESSION "com/example/epochcast/epochcast/server/Txn$Type") (S_CLOSE_SESSION : Sta Z h0 "com/example/epochcast/epochcast/server/Txn$Type" "CLOSE_SESSION" "Lcom/example/epochcast/epochcast/server/Txn$Type;" (.ref w_CLOSE_SESSION)) (E_w_CLOSE_SESSION : Exa Z h0 w_CLOSE_SESSION "com/example/epochcast/epochcast/server/Txn$Type") (S_AUTH : Sta Z h0 "com/example/epochcast/epochcast/server/Txn$Type" "AUTH" "Lcom/example/epochcast/epochcast/server/Txn$Type;" (.ref w_AUTH)) (E_w_AUTH : Exa Z h0 w_AUTH "com/example/epochcast/epochcast/server/Txn$Type") :
    ∃ (T' : State) (h' : Heap) (L' : List Loc) (b1 : Addr) (k1 : ClassId), Stand p l e room_1 s m args below meth c T' L' 1 9 ∧ T'.heap = h' ∧ Keep h0 h' [] ∧ Fr n0 L' ∧ h0.size ≤ b1 ∧ Arv Z h' b1 k1 (.object "com/example/epochcast/epochcast/server/Txn$Type") (9 : Int32) [(.ref w_CREATE), (.ref w_DELETE), (.ref w_SET_DATA), (.ref w_SET_ACL), (.ref w_CHECK), (.ref w_MULTI), (.ref w_CREATE_SESSION), (.ref w_CLOSE_SESSION), (.ref w_AUTH)] .null ∧ Ovr Z k1 "com/example/epochcast/epochcast/server/Txn$Type" ∧ ∀ target, Steps p.tables e below (T'.setTop (mkF m 63 #[.val (.int p1), .val (.ref b1), .unset, .unset, .unset, .unset, .unset] [])) target → Steps p.tables e below (T0.setTop (mkF m 0 #[.val (.int p1), .unset, .unset, .unset, .unset, .unset, .unset] [])) target := by
  obtain ⟨T1, h1, k1, X1, e1, E1, A1, O1, st1⟩ := newR X0 hx hZ hown (hw _ (List.mem_of_getElem? (i := 0) rfl)) (hw _ (List.mem_of_getElem? (i := 1) rfl)) e0 (g := (mkF m 2 #[.val (.int p1), .unset, .unset, .unset, .unset, .unset, .unset] [(.int 9)])) rfl (hb hby at_2) rfl (by decide) (cap := 9) (by decide) (by decide) (by decide) (by decide)
  obtain ⟨b1, g1⟩ : ∃ z, z = h0.size := ⟨_, rfl⟩
  have s_b1 : h0.size ≤ b1 := Nat.le_of_eq g1.symm
  have g_b1 : n0 ≤ b1 := Nat.le_trans Z0 s_b1
  have sz_b1 : h0.size ≤ b1 := s_b1
  rw [← g1] at A1 st1
  have K1 : Keep h0 h1 [] := (Keep.refl h0 []).ext E1
  have V_b1 : Arv Z h1 b1 k1 (.object "com/example/epochcast/epochcast/server/Txn$Type") (9 : Int32) [.null, .null, .null, .null, .null, .null, .null, .null, .null] .null := (Arv.new A1 (by decide)).pad (pad_rep [] .null 9)
  obtain ⟨T2, X2, e2, st2⟩ := getS2 X1 hx hZ hown (host := "") (Or.inl (hw _ (List.mem_of_getElem? (i := 2) rfl))) Via.refl e1 (own_sta_keep S_CREATE K1) (g := (mkF m 7 #[.val (.int p1), .unset, .unset, .unset, .unset, .unset, .unset] [(.int 0), (.ref b1), (.ref b1)])) rfl (hb hby at_7)
  obtain ⟨T3, h3, X3, e3, W3, Vw3, st3⟩ := own_stR X2 hx hZ e2 V_b1 O1 (Ins.self (E_w_CREATE.keep K1)) 0 rfl ⟨by decide, by decide⟩ (Nat.le_of_ble_eq_true rfl) (g := (mkF m 10 #[.val (.int p1), .unset, .unset, .unset, .unset, .unset, .unset] [(.ref w_CREATE), (.int 0), (.ref b1), (.ref b1)])) rfl rfl (hb hby at_10)
  have N3 := Fr.snoc X3 N0 g_b1
  have K3 : Keep h0 h3 [] := K1.wr W3 (Or.inr sz_b1)
  have V3_b1 : Arv Z h3 b1 k1 (.object "com/example/epochcast/epochcast/server/Txn$Type") (9 : Int32) [(.ref w_CREATE), .null, .null, .null, .null, .null, .null, .null, .null] .null := Vw3
  obtain ⟨T4, X4, e4, st4⟩ := getS2 X3 hx hZ hown (host := "") (Or.inl (hw _ (List.mem_of_getElem? (i := 6) rfl))) Via.refl e3 (own_sta_keep S_DELETE K3) (g := (mkF m 13 #[.val (.int p1), .unset, .unset, .unset, .unset, .unset, .unset] [(.int 1), (.ref b1), (.ref b1)])) rfl (hb hby at_13)
  obtain ⟨T5, h5, X5, e5, W5, Vw5, st5⟩ := own_stR X4 hx hZ e4 V3_b1 O1 (Ins.self (E_w_DELETE.keep K3)) 1 rfl ⟨by decide, by decide⟩ (Nat.le_of_ble_eq_true rfl) (g := (mkF m 16 #[.val (.int p1), .unset, .unset, .unset, .unset, .unset, .unset] [(.ref w_DELETE), (.int 1), (.ref b1), (.ref b1)])) rfl rfl (hb hby at_16)
  have N5 := Fr.snoc X5 N3 g_b1
  have K5 : Keep h0 h5 [] := K3.wr W5 (Or.inr sz_b1)
  have V5_b1 : Arv Z h5 b1 k1 (.object "com/example/epochcast/epochcast/server/Txn$Type") (9 : Int32) [(.ref w_CREATE), (.ref w_DELETE), .null, .null, .null, .null, .null, .null, .null] .null := Vw5
  obtain ⟨T6, X6, e6, st6⟩ := getS2 X5 hx hZ hown (host := "") (Or.inl (hw _ (List.mem_of_getElem? (i := 8) rfl))) Via.refl e5 (own_sta_keep S_SET_DATA K5) (g := (mkF m 19 #[.val (.int p1), .unset, .unset, .unset, .unset, .unset, .unset] [(.int 2), (.ref b1), (.ref b1)])) rfl (hb hby at_19)
  obtain ⟨T7, h7, X7, e7, W7, Vw7, st7⟩ := own_stR X6 hx hZ e6 V5_b1 O1 (Ins.self (E_w_SET_DATA.keep K5)) 2 rfl ⟨by decide, by decide⟩ (Nat.le_of_ble_eq_true rfl) (g := (mkF m 22 #[.val (.int p1), .unset, .unset, .unset, .unset, .unset, .unset] [(.ref w_SET_DATA), (.int 2), (.ref b1), (.ref b1)])) rfl rfl (hb hby at_22)
  have N7 := Fr.snoc X7 N5 g_b1
  have K7 : Keep h0 h7 [] := K5.wr W7 (Or.inr sz_b1)
  have V7_b1 : Arv Z h7 b1 k1 (.object "com/example/epochcast/epochcast/server/Txn$Type") (9 : Int32) [(.ref w_CREATE), (.ref w_DELETE), (.ref w_SET_DATA), .null, .null, .null, .null, .null, .null] .null := Vw7
  obtain ⟨T8, X8, e8, st8⟩ := getS2 X7 hx hZ hown (host := "") (Or.inl (hw _ (List.mem_of_getElem? (i := 10) rfl))) Via.refl e7 (own_sta_keep S_SET_ACL K7) (g := (mkF m 25 #[.val (.int p1), .unset, .unset, .unset, .unset, .unset, .unset] [(.int 3), (.ref b1), (.ref b1)])) rfl (hb hby at_25)
  obtain ⟨T9, h9, X9, e9, W9, Vw9, st9⟩ := own_stR X8 hx hZ e8 V7_b1 O1 (Ins.self (E_w_SET_ACL.keep K7)) 3 rfl ⟨by decide, by decide⟩ (Nat.le_of_ble_eq_true rfl) (g := (mkF m 28 #[.val (.int p1), .unset, .unset, .unset, .unset, .unset, .unset] [(.ref w_SET_ACL), (.int 3), (.ref b1), (.ref b1)])) rfl rfl (hb hby at_28)
  have N9 := Fr.snoc X9 N7 g_b1
  have K9 : Keep h0 h9 [] := K7.wr W9 (Or.inr sz_b1)
  have V9_b1 : Arv Z h9 b1 k1 (.object "com/example/epochcast/epochcast/server/Txn$Type") (9 : Int32) [(.ref w_CREATE), (.ref w_DELETE), (.ref w_SET_DATA), (.ref w_SET_ACL), .null, .null, .null, .null, .null] .null := Vw9
  obtain ⟨T10, X10, e10, st10⟩ := getS2 X9 hx hZ hown (host := "") (Or.inl (hw _ (List.mem_of_getElem? (i := 12) rfl))) Via.refl e9 (own_sta_keep S_CHECK K9) (g := (mkF m 31 #[.val (.int p1), .unset, .unset, .unset, .unset, .unset, .unset] [(.int 4), (.ref b1), (.ref b1)])) rfl (hb hby at_31)
  obtain ⟨T11, h11, X11, e11, W11, Vw11, st11⟩ := own_stR X10 hx hZ e10 V9_b1 O1 (Ins.self (E_w_CHECK.keep K9)) 4 rfl ⟨by decide, by decide⟩ (Nat.le_of_ble_eq_true rfl) (g := (mkF m 34 #[.val (.int p1), .unset, .unset, .unset, .unset, .unset, .unset] [(.ref w_CHECK), (.int 4), (.ref b1), (.ref b1)])) rfl rfl (hb hby at_34)
  have N11 := Fr.snoc X11 N9 g_b1
  have K11 : Keep h0 h11 [] := K9.wr W11 (Or.inr sz_b1)
  have V11_b1 : Arv Z h11 b1 k1 (.object "com/example/epochcast/epochcast/server/Txn$Type") (9 : Int32) [(.ref w_CREATE), (.ref w_DELETE), (.ref w_SET_DATA), (.ref w_SET_ACL), (.ref w_CHECK), .null, .null, .null, .null] .null := Vw11
  obtain ⟨T12, X12, e12, st12⟩ := getS2 X11 hx hZ hown (host := "") (Or.inl (hw _ (List.mem_of_getElem? (i := 14) rfl))) Via.refl e11 (own_sta_keep S_MULTI K11) (g := (mkF m 37 #[.val (.int p1), .unset, .unset, .unset, .unset, .unset, .unset] [(.int 5), (.ref b1), (.ref b1)])) rfl (hb hby at_37)
  obtain ⟨T13, h13, X13, e13, W13, Vw13, st13⟩ := own_stR X12 hx hZ e12 V11_b1 O1 (Ins.self (E_w_MULTI.keep K11)) 5 rfl ⟨by decide, by decide⟩ (Nat.le_of_ble_eq_true rfl) (g := (mkF m 40 #[.val (.int p1), .unset, .unset, .unset, .unset, .unset, .unset] [(.ref w_MULTI), (.int 5), (.ref b1), (.ref b1)])) rfl rfl (hb hby at_40)
  have N13 := Fr.snoc X13 N11 g_b1
  have K13 : Keep h0 h13 [] := K11.wr W13 (Or.inr sz_b1)
  have V13_b1 : Arv Z h13 b1 k1 (.object "com/example/epochcast/epochcast/server/Txn$Type") (9 : Int32) [(.ref w_CREATE), (.ref w_DELETE), (.ref w_SET_DATA), (.ref w_SET_ACL), (.ref w_CHECK), (.ref w_MULTI), .null, .null, .null] .null := Vw13
  obtain ⟨T14, X14, e14, st14⟩ := getS2 X13 hx hZ hown (host := "") (Or.inl (hw _ (List.mem_of_getElem? (i := 16) rfl))) Via.refl e13 (own_sta_keep S_CREATE_SESSION K13) (g := (mkF m 44 #[.val (.int p1), .unset, .unset, .unset, .unset, .unset, .unset] [(.int 6), (.ref b1), (.ref b1)])) rfl (hb hby at_44)
  obtain ⟨T15, h15, X15, e15, W15, Vw15, st15⟩ := own_stR X14 hx hZ e14 V13_b1 O1 (Ins.self (E_w_CREATE_SESSION.keep K13)) 6 rfl ⟨by decide, by decide⟩ (Nat.le_of_ble_eq_true rfl) (g := (mkF m 47 #[.val (.int p1), .unset, .unset, .unset, .unset, .unset, .unset] [(.ref w_CREATE_SESSION), (.int 6), (.ref b1), (.ref b1)])) rfl rfl (hb hby at_47)
  have N15 := Fr.snoc X15 N13 g_b1
  have K15 : Keep h0 h15 [] := K13.wr W15 (Or.inr sz_b1)
  have V15_b1 : Arv Z h15 b1 k1 (.object "com/example/epochcast/epochcast/server/Txn$Type") (9 : Int32) [(.ref w_CREATE), (.ref w_DELETE), (.ref w_SET_DATA), (.ref w_SET_ACL), (.ref w_CHECK), (.ref w_MULTI), (.ref w_CREATE_SESSION), .null, .null] .null := Vw15
  obtain ⟨T16, X16, e16, st16⟩ := getS2 X15 hx hZ hown (host := "") (Or.inl (hw _ (List.mem_of_getElem? (i := 18) rfl))) Via.refl e15 (own_sta_keep S_CLOSE_SESSION K15) (g := (mkF m 51 #[.val (.int p1), .unset, .unset, .unset, .unset, .unset, .unset] [(.int 7), (.ref b1), (.ref b1)])) rfl (hb hby at_51)
  obtain ⟨T17, h17, X17, e17, W17, Vw17, st17⟩ := own_stR X16 hx hZ e16 V15_b1 O1 (Ins.self (E_w_CLOSE_SESSION.keep K15)) 7 rfl ⟨by decide, by decide⟩ (Nat.le_of_ble_eq_true rfl) (g := (mkF m 54 #[.val (.int p1), .unset, .unset, .unset, .unset, .unset, .unset] [(.ref w_CLOSE_SESSION), (.int 7), (.ref b1), (.ref b1)])) rfl rfl (hb hby at_54)
  have N17 := Fr.snoc X17 N15 g_b1
  have K17 : Keep h0 h17 [] := K15.wr W17 (Or.inr sz_b1)
  have V17_b1 : Arv Z h17 b1 k1 (.object "com/example/epochcast/epochcast/server/Txn$Type") (9 : Int32) [(.ref w_CREATE), (.ref w_DELETE), (.ref w_SET_DATA), (.ref w_SET_ACL), (.ref w_CHECK), (.ref w_MULTI), (.ref w_CREATE_SESSION), (.ref w_CLOSE_SESSION), .null] .null := Vw17
  obtain ⟨T18, X18, e18, st18⟩ := getS2 X17 hx hZ hown (host := "") (Or.inl (hw _ (List.mem_of_getElem? (i := 20) rfl))) Via.refl e17 (own_sta_keep S_AUTH K17) (g := (mkF m 58 #[.val (.int p1), .unset, .unset, .unset, .unset, .unset, .unset] [(.int 8), (.ref b1), (.ref b1)])) rfl (hb hby at_58)
  obtain ⟨T19, h19, X19, e19, W19, Vw19, st19⟩ := own_stR X18 hx hZ e18 V17_b1 O1 (Ins.self (E_w_AUTH.keep K17)) 8 rfl ⟨by decide, by decide⟩ (Nat.le_of_ble_eq_true rfl) (g := (mkF m 61 #[.val (.int p1), .unset, .unset, .unset, .unset, .unset, .unset] [(.ref w_AUTH), (.int 8), (.ref b1), (.ref b1)])) rfl rfl (hb hby at_61)
  have N19 := Fr.snoc X19 N17 g_b1
  have K19 : Keep h0 h19 [] := K17.wr W19 (Or.inr sz_b1)
  have V19_b1 : Arv Z h19 b1 k1 (.object "com/example/epochcast/epochcast/server/Txn$Type") (9 : Int32) [(.ref w_CREATE), (.ref w_DELETE), (.ref w_SET_DATA), (.ref w_SET_ACL), (.ref w_CHECK), (.ref w_MULTI), (.ref w_CREATE_SESSION), (.ref w_CLOSE_SESSION), (.ref w_AUTH)] .null := Vw19
  refine ⟨T19, _, _, b1, k1, X19, e19, K19, N19, sz_b1, V19_b1, O1, fun target kt => ?_⟩
  show Steps p.tables e below (T0.setTop (mkF m 0 #[.val (.int p1), .unset, .unset, .unset, .unset, .unset, .unset] [])) _
  refine XS.bipush X0.here hx rfl (hb hby at_0) ?_
  show Steps p.tables e below (T0.setTop (mkF m 2 #[.val (.int p1), .unset, .unset, .unset, .unset, .unset, .unset] [(.int 9)])) _
  refine st1 _ ?_
  show Steps p.tables e below (T1.setTop (mkF m 5 #[.val (.int p1), .unset, .unset, .unset, .unset, .unset, .unset] [(.ref b1)])) _
  refine XS.dup X1.here hx rfl (hb hby at_5) rfl rfl ?_
  show Steps p.tables e below (T1.setTop (mkF m 6 #[.val (.int p1), .unset, .unset, .unset, .unset, .unset, .unset] [(.ref b1), (.ref b1)])) _
  refine XS.iconst X1.here hx rfl (hb hby at_6) ?_
  show Steps p.tables e below (T1.setTop (mkF m 7 #[.val (.int p1), .unset, .unset, .unset, .unset, .unset, .unset] [(.int 0), (.ref b1), (.ref b1)])) _
  refine st2 _ ?_
  show Steps p.tables e below (T2.setTop (mkF m 10 #[.val (.int p1), .unset, .unset, .unset, .unset, .unset, .unset] [(.ref w_CREATE), (.int 0), (.ref b1), (.ref b1)])) _
  refine st3 _ ?_
  show Steps p.tables e below (T3.setTop (mkF m 11 #[.val (.int p1), .unset, .unset, .unset, .unset, .unset, .unset] [(.ref b1)])) _
  refine XS.dup X3.here hx rfl (hb hby at_11) rfl rfl ?_
  show Steps p.tables e below (T3.setTop (mkF m 12 #[.val (.int p1), .unset, .unset, .unset, .unset, .unset, .unset] [(.ref b1), (.ref b1)])) _
  refine XS.iconst X3.here hx rfl (hb hby at_12) ?_
  show Steps p.tables e below (T3.setTop (mkF m 13 #[.val (.int p1), .unset, .unset, .unset, .unset, .unset, .unset] [(.int 1), (.ref b1), (.ref b1)])) _
  refine st4 _ ?_
  show Steps p.tables e below (T4.setTop (mkF m 16 #[.val (.int p1), .unset, .unset, .unset, .unset, .unset, .unset] [(.ref w_DELETE), (.int 1), (.ref b1), (.ref b1)])) _
  refine st5 _ ?_
  show Steps p.tables e below (T5.setTop (mkF m 17 #[.val (.int p1), .unset, .unset, .unset, .unset, .unset, .unset] [(.ref b1)])) _
  refine XS.dup X5.here hx rfl (hb hby at_17) rfl rfl ?_
  show Steps p.tables e below (T5.setTop (mkF m 18 #[.val (.int p1), .unset, .unset, .unset, .unset, .unset, .unset] [(.ref b1), (.ref b1)])) _
  refine XS.iconst X5.here hx rfl (hb hby at_18) ?_
  show Steps p.tables e below (T5.setTop (mkF m 19 #[.val (.int p1), .unset, .unset, .unset, .unset, .unset, .unset] [(.int 2), (.ref b1), (.ref b1)])) _
  refine st6 _ ?_
  show Steps p.tables e below (T6.setTop (mkF m 22 #[.val (.int p1), .unset, .unset, .unset, .unset, .unset, .unset] [(.ref w_SET_DATA), (.int 2), (.ref b1), (.ref b1)])) _
  refine st7 _ ?_
  show Steps p.tables e below (T7.setTop (mkF m 23 #[.val (.int p1), .unset, .unset, .unset, .unset, .unset, .unset] [(.ref b1)])) _
  refine XS.dup X7.here hx rfl (hb hby at_23) rfl rfl ?_
  show Steps p.tables e below (T7.setTop (mkF m 24 #[.val (.int p1), .unset, .unset, .unset, .unset, .unset, .unset] [(.ref b1), (.ref b1)])) _
  refine XS.iconst X7.here hx rfl (hb hby at_24) ?_
  show Steps p.tables e below (T7.setTop (mkF m 25 #[.val (.int p1), .unset, .unset, .unset, .unset, .unset, .unset] [(.int 3), (.ref b1), (.ref b1)])) _
  refine st8 _ ?_
  show Steps p.tables e below (T8.setTop (mkF m 28 #[.val (.int p1), .unset, .unset, .unset, .unset, .unset, .unset] [(.ref w_SET_ACL), (.int 3), (.ref b1), (.ref b1)])) _
  refine st9 _ ?_
  show Steps p.tables e below (T9.setTop (mkF m 29 #[.val (.int p1), .unset, .unset, .unset, .unset, .unset, .unset] [(.ref b1)])) _
  refine XS.dup X9.here hx rfl (hb hby at_29) rfl rfl ?_
  show Steps p.tables e below (T9.setTop (mkF m 30 #[.val (.int p1), .unset, .unset, .unset, .unset, .unset, .unset] [(.ref b1), (.ref b1)])) _
  refine XS.iconst X9.here hx rfl (hb hby at_30) ?_
  show Steps p.tables e below (T9.setTop (mkF m 31 #[.val (.int p1), .unset, .unset, .unset, .unset, .unset, .unset] [(.int 4), (.ref b1), (.ref b1)])) _
  refine st10 _ ?_
  show Steps p.tables e below (T10.setTop (mkF m 34 #[.val (.int p1), .unset, .unset, .unset, .unset, .unset, .unset] [(.ref w_CHECK), (.int 4), (.ref b1), (.ref b1)])) _
  refine st11 _ ?_
  show Steps p.tables e below (T11.setTop (mkF m 35 #[.val (.int p1), .unset, .unset, .unset, .unset, .unset, .unset] [(.ref b1)])) _
  refine XS.dup X11.here hx rfl (hb hby at_35) rfl rfl ?_
  show Steps p.tables e below (T11.setTop (mkF m 36 #[.val (.int p1), .unset, .unset, .unset, .unset, .unset, .unset] [(.ref b1), (.ref b1)])) _
  refine XS.iconst X11.here hx rfl (hb hby at_36) ?_
  show Steps p.tables e below (T11.setTop (mkF m 37 #[.val (.int p1), .unset, .unset, .unset, .unset, .unset, .unset] [(.int 5), (.ref b1), (.ref b1)])) _
  refine st12 _ ?_
  show Steps p.tables e below (T12.setTop (mkF m 40 #[.val (.int p1), .unset, .unset, .unset, .unset, .unset, .unset] [(.ref w_MULTI), (.int 5), (.ref b1), (.ref b1)])) _
  refine st13 _ ?_
  show Steps p.tables e below (T13.setTop (mkF m 41 #[.val (.int p1), .unset, .unset, .unset, .unset, .unset, .unset] [(.ref b1)])) _
  refine XS.dup X13.here hx rfl (hb hby at_41) rfl rfl ?_
  show Steps p.tables e below (T13.setTop (mkF m 42 #[.val (.int p1), .unset, .unset, .unset, .unset, .unset, .unset] [(.ref b1), (.ref b1)])) _
  refine XS.bipush X13.here hx rfl (hb hby at_42) ?_
  show Steps p.tables e below (T13.setTop (mkF m 44 #[.val (.int p1), .unset, .unset, .unset, .unset, .unset, .unset] [(.int 6), (.ref b1), (.ref b1)])) _
  refine st14 _ ?_
  show Steps p.tables e below (T14.setTop (mkF m 47 #[.val (.int p1), .unset, .unset, .unset, .unset, .unset, .unset] [(.ref w_CREATE_SESSION), (.int 6), (.ref b1), (.ref b1)])) _
  refine st15 _ ?_
  show Steps p.tables e below (T15.setTop (mkF m 48 #[.val (.int p1), .unset, .unset, .unset, .unset, .unset, .unset] [(.ref b1)])) _
  refine XS.dup X15.here hx rfl (hb hby at_48) rfl rfl ?_
  show Steps p.tables e below (T15.setTop (mkF m 49 #[.val (.int p1), .unset, .unset, .unset, .unset, .unset, .unset] [(.ref b1), (.ref b1)])) _
  refine XS.bipush X15.here hx rfl (hb hby at_49) ?_
  show Steps p.tables e below (T15.setTop (mkF m 51 #[.val (.int p1), .unset, .unset, .unset, .unset, .unset, .unset] [(.int 7), (.ref b1), (.ref b1)])) _
  refine st16 _ ?_
  show Steps p.tables e below (T16.setTop (mkF m 54 #[.val (.int p1), .unset, .unset, .unset, .unset, .unset, .unset] [(.ref w_CLOSE_SESSION), (.int 7), (.ref b1), (.ref b1)])) _
  refine st17 _ ?_
  show Steps p.tables e below (T17.setTop (mkF m 55 #[.val (.int p1), .unset, .unset, .unset, .unset, .unset, .unset] [(.ref b1)])) _
  refine XS.dup X17.here hx rfl (hb hby at_55) rfl rfl ?_
  show Steps p.tables e below (T17.setTop (mkF m 56 #[.val (.int p1), .unset, .unset, .unset, .unset, .unset, .unset] [(.ref b1), (.ref b1)])) _
  refine XS.bipush X17.here hx rfl (hb hby at_56) ?_
  show Steps p.tables e below (T17.setTop (mkF m 58 #[.val (.int p1), .unset, .unset, .unset, .unset, .unset, .unset] [(.int 8), (.ref b1), (.ref b1)])) _
  refine st18 _ ?_
  show Steps p.tables e below (T18.setTop (mkF m 61 #[.val (.int p1), .unset, .unset, .unset, .unset, .unset, .unset] [(.ref w_AUTH), (.int 8), (.ref b1), (.ref b1)])) _
  refine st19 _ ?_
  show Steps p.tables e below (T19.setTop (mkF m 62 #[.val (.int p1), .unset, .unset, .unset, .unset, .unset, .unset] [(.ref b1)])) _
  refine XS.astoreN X19.here hx rfl (hb hby at_62) rfl rfl (l' := #[.val (.int p1), .val (.ref b1), .unset, .unset, .unset, .unset, .unset]) rfl ?_
  show Steps p.tables e below (T19.setTop (mkF m 63 #[.val (.int p1), .val (.ref b1), .unset, .unset, .unset, .unset, .unset] [])) _
  exact kt
def Q1_w_CREATE (Z : State) (w_CREATE : Addr) (h0 : Heap) (n0 : Nat) (v : Option Value) (h : Heap) (L : List Loc) : Prop := v = some (.int 1) ∧ Fr n0 L ∧ h = h0
set_option maxRecDepth 65536 in
set_option maxHeartbeats 40000000 in
theorem rm1_w_CREATE (l : Launch) (Z : State) (a0 : Array Value) (hw : ∀ d ∈ tables_1, d.before a0 Z = true) (ws : List Jvm.Cond) (w_CREATE : Addr) (h0 : Heap) (n0 : Nat) (Z0 : n0 ≤ h0.size) (F_code_w_CREATE : Fld Z h0 w_CREATE "com/example/epochcast/epochcast/server/Txn$Type" "code" "I" (.int 1)) :
    MetFree l (⟨"com/example/epochcast/epochcast/server/Txn$Type", "code", "()I"⟩ : MethodName) (head1 (Jvm.Cond.code (⟨"com/example/epochcast/epochcast/server/Txn$Type", "code", "()I"⟩ : MethodName) prog_202_method_4_code 1 (some .int) :: ws) ({ frames := 0, cells := 0, slots := 0, locals := 0 } : Room)) (fun a U => a = #[(.ref w_CREATE)] ∧ Z.Warmed39 U.vm ∧ U.heap = h0) (fun _ _ _ _ _ => True) (fun _ U o U' => ∃ v L, o = .returned v ∧ Q1_w_CREATE Z w_CREATE h0 n0 v U'.heap L ∧ FrameEnd U o U' L ({ frames := 0, cells := 0, slots := 0, locals := 0 } : Room).cells ({ frames := 0, cells := 0, slots := 0, locals := 0 } : Room).slots) := by
  refine MetFree.of_bodySF (plainFor_of_name pn_1) hisR ?_
  intro p e s m args below meth c s₁ Bd hml0 hP hK
  obtain ⟨rfl, hZ, hh⟩ := hP
  have hx := Bd.exec
  have hby := Bd.bytes
  have hml : c.maxLocals = 1 := hml0
  have hown : s.vm.findClass "com/example/epochcast/epochcast/server/Txn$Type" = some m.cls := findClass_of_methodNamed Bd.named
  have hnm := (name_of_methodNamed Bd.named Bd.method).1
  have X0 : Stand p l e ({ frames := 0, cells := 0, slots := 0, locals := 0 } : Room) s m #[(.ref w_CREATE)] below meth c s₁ [] 0 0 := Stand.of_body Bd
  have e0 : s₁.heap = h0 := by rw [← hh, Bd.state]; rfl
  have N0 := Fr.nil n0
  have pre0 : ∀ t, Steps p.tables e below (s₁.setTop (mkF m 0 #[.val (.ref w_CREATE)] [])) t → Steps p.tables e below (s₁.setTop (entryFrame m #[(.ref w_CREATE)] 1)) t := fun t k => castTop (by first | (simp [entryFrame, mkF, argsToLocals, Value.category]; done) | rfl) k
  obtain ⟨T1, X1, e1, st1⟩ := getF X0 hx hZ hown (host := "") (Or.inl (hw _ (List.mem_of_getElem? (i := 28) rfl))) Via.refl e0 F_code_w_CREATE (g := (mkF m 1 #[.val (.ref w_CREATE)] [(.ref w_CREATE)])) rfl rfl (hb hby d1_1)
  obtain ⟨fs, hr, hrun, hended, hW, hsame⟩ := X1.leave (v := some (.int 1)) (fun h => by rw [Bd.returns] at h; cases h)
  refine ⟨_, _, pre0 _ ?_, hrun, hended, _, _, rfl, ?_, ⟨_, rfl⟩, hW, hsame.mono (by decide) (by decide)⟩
  · show Steps p.tables e below (s₁.setTop (mkF m 0 #[.val (.ref w_CREATE)] [])) _
    refine XS.aloadN X0.here hx rfl (hb hby d1_0) rfl rfl ?_
    show Steps p.tables e below (s₁.setTop (mkF m 1 #[.val (.ref w_CREATE)] [(.ref w_CREATE)])) _
    refine st1 _ ?_
    show Steps p.tables e below (T1.setTop (mkF m 4 #[.val (.ref w_CREATE)] [(.int 1)])) _
    exact retI X1 hx Bd.returns (hb hby d1_4) hr
  · show Q1_w_CREATE Z w_CREATE h0 n0 _ T1.heap _
    rw [e1]
    exact ⟨rfl, N0, rfl⟩
def Q2_w_CREATE (Z : State) (w_CREATE : Addr) (h0 : Heap) (n0 : Nat) (v : Option Value) (h : Heap) (L : List Loc) : Prop := v = some (.int 1) ∧ Fr n0 L ∧ h = h0
set_option maxRecDepth 65536 in
set_option maxHeartbeats 40000000 in
theorem rm2_w_CREATE (l : Launch) (Z : State) (a0 : Array Value) (hw : ∀ d ∈ tables_1, d.before a0 Z = true) (ws : List Jvm.Cond) (w_CREATE : Addr) (h0 : Heap) (n0 : Nat) (Z0 : n0 ≤ h0.size) (S_CREATE : Sta Z h0 "com/example/epochcast/epochcast/server/Txn$Type" "CREATE" "Lcom/example/epochcast/epochcast/server/Txn$Type;" (.ref w_CREATE)) :
    MetFree l (⟨"com/example/epochcast/epochcast/server/Txn$Type", "isOperation", "()Z"⟩ : MethodName) (head1 (Jvm.Cond.code (⟨"com/example/epochcast/epochcast/server/Txn$Type", "isOperation", "()Z"⟩ : MethodName) prog_202_method_6_code 1 (some .boolean) :: ws) ({ frames := 0, cells := 0, slots := 0, locals := 0 } : Room)) (fun a U => a = #[(.ref w_CREATE)] ∧ Z.Warmed39 U.vm ∧ U.heap = h0) (fun _ _ _ _ _ => True) (fun _ U o U' => ∃ v L, o = .returned v ∧ Q2_w_CREATE Z w_CREATE h0 n0 v U'.heap L ∧ FrameEnd U o U' L ({ frames := 0, cells := 0, slots := 0, locals := 0 } : Room).cells ({ frames := 0, cells := 0, slots := 0, locals := 0 } : Room).slots) := by
  refine MetFree.of_bodySF (plainFor_of_name pn_2) hisR ?_
  intro p e s m args below meth c s₁ Bd hml0 hP hK
  obtain ⟨rfl, hZ, hh⟩ := hP
  have hx := Bd.exec
  have hby := Bd.bytes
  have hml : c.maxLocals = 1 := hml0
  have hown : s.vm.findClass "com/example/epochcast/epochcast/server/Txn$Type" = some m.cls := findClass_of_methodNamed Bd.named
  have hnm := (name_of_methodNamed Bd.named Bd.method).1
  have X0 : Stand p l e ({ frames := 0, cells := 0, slots := 0, locals := 0 } : Room) s m #[(.ref w_CREATE)] below meth c s₁ [] 0 0 := Stand.of_body Bd
  have e0 : s₁.heap = h0 := by rw [← hh, Bd.state]; rfl
  have N0 := Fr.nil n0
  have pre0 : ∀ t, Steps p.tables e below (s₁.setTop (mkF m 0 #[.val (.ref w_CREATE)] [])) t → Steps p.tables e below (s₁.setTop (entryFrame m #[(.ref w_CREATE)] 1)) t := fun t k => castTop (by first | (simp [entryFrame, mkF, argsToLocals, Value.category]; done) | rfl) k
  obtain ⟨T1, X1, e1, st1⟩ := getS2 X0 hx hZ hown (host := "") (Or.inl (hw _ (List.mem_of_getElem? (i := 35) rfl))) Via.refl e0 S_CREATE (g := (mkF m 1 #[.val (.ref w_CREATE)] [(.ref w_CREATE)])) rfl (hb hby d2_1)
  obtain ⟨fs, hr, hrun, hended, hW, hsame⟩ := X1.leave (v := some (.int 1)) (fun h => by rw [Bd.returns] at h; cases h)
  refine ⟨_, _, pre0 _ ?_, hrun, hended, _, _, rfl, ?_, ⟨_, rfl⟩, hW, hsame.mono (by decide) (by decide)⟩
  · show Steps p.tables e below (s₁.setTop (mkF m 0 #[.val (.ref w_CREATE)] [])) _
    refine XS.aloadN X0.here hx rfl (hb hby d2_0) rfl rfl ?_
    show Steps p.tables e below (s₁.setTop (mkF m 1 #[.val (.ref w_CREATE)] [(.ref w_CREATE)])) _
    refine st1 _ ?_
    show Steps p.tables e below (T1.setTop (mkF m 4 #[.val (.ref w_CREATE)] [(.ref w_CREATE), (.ref w_CREATE)])) _
    refine Jvm.RoadKit.acmp (g := (mkF m 4 #[.val (.ref w_CREATE)] [(.ref w_CREATE), (.ref w_CREATE)])) X1 hx rfl rfl rfl (pc0 := 4) (pc' := 28) (same := true) rfl (hb hby d2_4) rfl (decide_eq_true rfl) (by decide) (by decide) ?_
    show Steps p.tables e below (T1.setTop (mkF m 28 #[.val (.ref w_CREATE)] [])) _
    refine XS.iconst X1.here hx rfl (hb hby d2_28) ?_
    show Steps p.tables e below (T1.setTop (mkF m 29 #[.val (.ref w_CREATE)] [(.int 1)])) _
    refine XS.goto X1.here hx rfl (pc0 := 29) (pc' := 33) rfl (hb hby d2_29) (by decide) (by decide) ?_
    show Steps p.tables e below (T1.setTop (mkF m 33 #[.val (.ref w_CREATE)] [(.int 1)])) _
    exact retN X1 hx (t := .boolean) Bd.returns (by simp) (hb hby d2_33) hr
  · show Q2_w_CREATE Z w_CREATE h0 n0 _ T1.heap _
    rw [e1]
    exact ⟨rfl, N0, rfl⟩
def Q3_w_CREATE (Z : State) (w_CREATE : Addr) (w_CREATE_SESSION : Addr) (w_CLOSE_SESSION : Addr) (w_AUTH : Addr) (h0 : Heap) (n0 : Nat) (v : Option Value) (h : Heap) (L : List Loc) : Prop := v = some (.int 0) ∧ Fr n0 L ∧ h = h0
set_option maxRecDepth 65536 in
set_option maxHeartbeats 40000000 in
theorem rm3_w_CREATE (l : Launch) (Z : State) (a0 : Array Value) (hw : ∀ d ∈ tables_1, d.before a0 Z = true) (ws : List Jvm.Cond) (w_CREATE : Addr) (w_CREATE_SESSION : Addr) (w_CLOSE_SESSION : Addr) (w_AUTH : Addr) (h0 : Heap) (n0 : Nat) (Z0 : n0 ≤ h0.size) (S_CREATE_SESSION : Sta Z h0 "com/example/epochcast/epochcast/server/Txn$Type" "CREATE_SESSION" "Lcom/example/epochcast/epochcast/server/Txn$Type;" (.ref w_CREATE_SESSION)) (n_w_CREATE_w_CREATE_SESSION : ¬ (w_CREATE = w_CREATE_SESSION)) (S_CLOSE_SESSION : Sta Z h0 "com/example/epochcast/epochcast/server/Txn$Type" "CLOSE_SESSION" "Lcom/example/epochcast/epochcast/server/Txn$Type;" (.ref w_CLOSE_SESSION)) (n_w_CLOSE_SESSION_w_CREATE : ¬ (w_CLOSE_SESSION = w_CREATE)) (S_AUTH : Sta Z h0 "com/example/epochcast/epochcast/server/Txn$Type" "AUTH" "Lcom/example/epochcast/epochcast/server/Txn$Type;" (.ref w_AUTH)) (n_w_AUTH_w_CREATE : ¬ (w_AUTH = w_CREATE)) :
    MetFree l (⟨"com/example/epochcast/epochcast/server/Txn$Type", "isSession", "()Z"⟩ : MethodName) (head1 (Jvm.Cond.code (⟨"com/example/epochcast/epochcast/server/Txn$Type", "isSession", "()Z"⟩ : MethodName) prog_202_method_5_code 1 (some .boolean) :: ws) ({ frames := 0, cells := 0, slots := 0, locals := 0 } : Room)) (fun a U => a = #[(.ref w_CREATE)] ∧ Z.Warmed39 U.vm ∧ U.heap = h0) (fun _ _ _ _ _ => True) (fun _ U o U' => ∃ v L, o = .returned v ∧ Q3_w_CREATE Z w_CREATE w_CREATE_SESSION w_CLOSE_SESSION w_AUTH h0 n0 v U'.heap L ∧ FrameEnd U o U' L ({ frames := 0, cells := 0, slots := 0, locals := 0 } : Room).cells ({ frames := 0, cells := 0, slots := 0, locals := 0 } : Room).slots) := by
  refine MetFree.of_bodySF (plainFor_of_name pn_3) hisR ?_
  intro p e s m args below meth c s₁ Bd hml0 hP hK
  obtain ⟨rfl, hZ, hh⟩ := hP
  have hx := Bd.exec
  have hby := Bd.bytes
  have hml : c.maxLocals = 1 := hml0
  have hown : s.vm.findClass "com/example/epochcast/epochcast/server/Txn$Type" = some m.cls := findClass_of_methodNamed Bd.named
  have hnm := (name_of_methodNamed Bd.named Bd.method).1
  have X0 : Stand p l e ({ frames := 0, cells := 0, slots := 0, locals := 0 } : Room) s m #[(.ref w_CREATE)] below meth c s₁ [] 0 0 := Stand.of_body Bd
  have e0 : s₁.heap = h0 := by rw [← hh, Bd.state]; rfl
  have N0 := Fr.nil n0
  have pre0 : ∀ t, Steps p.tables e below (s₁.setTop (mkF m 0 #[.val (.ref w_CREATE)] [])) t → Steps p.tables e below (s₁.setTop (entryFrame m #[(.ref w_CREATE)] 1)) t := fun t k => castTop (by first | (simp [entryFrame, mkF, argsToLocals, Value.category]; done) | rfl) k
  obtain ⟨T1, X1, e1, st1⟩ := getS2 X0 hx hZ hown (host := "") (Or.inl (hw _ (List.mem_of_getElem? (i := 41) rfl))) Via.refl e0 S_CREATE_SESSION (g := (mkF m 1 #[.val (.ref w_CREATE)] [(.ref w_CREATE)])) rfl (hb hby d3_1)
  obtain ⟨T2, X2, e2, st2⟩ := getS2 X1 hx hZ hown (host := "") (Or.inl (hw _ (List.mem_of_getElem? (i := 42) rfl))) Via.refl e1 S_CLOSE_SESSION (g := (mkF m 8 #[.val (.ref w_CREATE)] [(.ref w_CREATE)])) rfl (hb hby d3_8)
  obtain ⟨T3, X3, e3, st3⟩ := getS2 X2 hx hZ hown (host := "") (Or.inl (hw _ (List.mem_of_getElem? (i := 43) rfl))) Via.refl e2 S_AUTH (g := (mkF m 15 #[.val (.ref w_CREATE)] [(.ref w_CREATE)])) rfl (hb hby d3_15)
  obtain ⟨fs, hr, hrun, hended, hW, hsame⟩ := X3.leave (v := some (.int 0)) (fun h => by rw [Bd.returns] at h; cases h)
  refine ⟨_, _, pre0 _ ?_, hrun, hended, _, _, rfl, ?_, ⟨_, rfl⟩, hW, hsame.mono (by decide) (by decide)⟩
  · show Steps p.tables e below (s₁.setTop (mkF m 0 #[.val (.ref w_CREATE)] [])) _
    refine XS.aloadN X0.here hx rfl (hb hby d3_0) rfl rfl ?_
    show Steps p.tables e below (s₁.setTop (mkF m 1 #[.val (.ref w_CREATE)] [(.ref w_CREATE)])) _
    refine st1 _ ?_
    show Steps p.tables e below (T1.setTop (mkF m 4 #[.val (.ref w_CREATE)] [(.ref w_CREATE_SESSION), (.ref w_CREATE)])) _
    refine Jvm.RoadKit.acmp (g := (mkF m 4 #[.val (.ref w_CREATE)] [(.ref w_CREATE_SESSION), (.ref w_CREATE)])) X1 hx rfl rfl rfl (pc0 := 4) (pc' := 7) (same := false) rfl (hb hby d3_4) rfl (decide_eq_false fun q => n_w_CREATE_w_CREATE_SESSION (Value.ref.inj q)) (by decide) (by decide) ?_
    show Steps p.tables e below (T1.setTop (mkF m 7 #[.val (.ref w_CREATE)] [])) _
    refine XS.aloadN X1.here hx rfl (hb hby d3_7) rfl rfl ?_
    show Steps p.tables e below (T1.setTop (mkF m 8 #[.val (.ref w_CREATE)] [(.ref w_CREATE)])) _
    refine st2 _ ?_
    show Steps p.tables e below (T2.setTop (mkF m 11 #[.val (.ref w_CREATE)] [(.ref w_CLOSE_SESSION), (.ref w_CREATE)])) _
    refine Jvm.RoadKit.acmp (g := (mkF m 11 #[.val (.ref w_CREATE)] [(.ref w_CLOSE_SESSION), (.ref w_CREATE)])) X2 hx rfl rfl rfl (pc0 := 11) (pc' := 14) (same := false) rfl (hb hby d3_11) rfl (decide_eq_false fun q => (Ne.symm n_w_CLOSE_SESSION_w_CREATE) (Value.ref.inj q)) (by decide) (by decide) ?_
    show Steps p.tables e below (T2.setTop (mkF m 14 #[.val (.ref w_CREATE)] [])) _
    refine XS.aloadN X2.here hx rfl (hb hby d3_14) rfl rfl ?_
    show Steps p.tables e below (T2.setTop (mkF m 15 #[.val (.ref w_CREATE)] [(.ref w_CREATE)])) _
    refine st3 _ ?_
    show Steps p.tables e below (T3.setTop (mkF m 18 #[.val (.ref w_CREATE)] [(.ref w_AUTH), (.ref w_CREATE)])) _
    refine Jvm.RoadKit.acmp (g := (mkF m 18 #[.val (.ref w_CREATE)] [(.ref w_AUTH), (.ref w_CREATE)])) X3 hx rfl rfl rfl (pc0 := 18) (pc' := 25) (same := false) rfl (hb hby d3_18) rfl (decide_eq_false fun q => (Ne.symm n_w_AUTH_w_CREATE) (Value.ref.inj q)) (by decide) (by decide) ?_
    show Steps p.tables e below (T3.setTop (mkF m 25 #[.val (.ref w_CREATE)] [])) _
    refine XS.iconst X3.here hx rfl (hb hby d3_25) ?_
    show Steps p.tables e below (T3.setTop (mkF m 26 #[.val (.ref w_CREATE)] [(.int 0)])) _
    exact retN X3 hx (t := .boolean) Bd.returns (by simp) (hb hby d3_26) hr
  · show Q3_w_CREATE Z w_CREATE w_CREATE_SESSION w_CLOSE_SESSION w_AUTH h0 n0 _ T3.heap _
    rw [e3]
    exact ⟨rfl, N0, rfl⟩
set_option maxRecDepth 65536 in
set_option maxHeartbeats 40000000 in
theorem pc0_k0 {p : Program} {l : Launch} {e : Env} {s : State} {m : MethodId} {args : Array Value} {below : List Frame} {meth : Method} {c : Code} {T0 : State} {locs : List Loc} {Z : State} {a0 : Array Value} {h0 : Heap} {n0 : Nat} (p1 : Int32) (b1 : Addr) (k1 : ClassId) (w_CREATE : Addr) (w_DELETE : Addr) (w_SET_DATA : Addr) (w_SET_ACL : Addr) (w_CHECK : Addr) (w_MULTI : Addr) (w_CREATE_SESSION : Addr) (w_CLOSE_SESSION : Addr) (w_AUTH : Addr)
    (X0 : Stand p l e room_1 s m args below meth c T0 locs 1 9) (hx : p.tables.exec = Jvm.exec) (hZ : Z.Warmed39 s.vm) (hw : ∀ d ∈ tables_1, d.before a0 Z = true) (hby : c.code = code) (hml : c.maxLocals = 7) (hown : s.vm.findClass "com/example/epochcast/epochcast/server/TypeIsOperationPinLaw" = some m.cls) (e0 : T0.heap = h0) (Z0 : n0 ≤ h0.size) (N0 : Fr n0 locs) (hk : ((p1 &&& (2147483647 : Int32)) % (9 : Int32)) = (0 : Int32)) (V_b1 : Arv Z h0 b1 k1 (.object "com/example/epochcast/epochcast/server/Txn$Type") (9 : Int32) [(.ref w_CREATE), (.ref w_DELETE), (.ref w_SET_DATA), (.ref w_SET_ACL), (.ref w_CHECK), (.ref w_MULTI), (.ref w_CREATE_SESSION), (.ref w_CLOSE_SESSION), (.ref w_AUTH)] .null) (F_code_w_CREATE : Fld Z h0 w_CREATE "com/example/epochcast/epochcast/server/Txn$Type" "code" "I" (.int 1)) (E_w_CREATE : Exa Z h0 w_CREATE "com/example/epochcast/epochcast/server/Txn$Type") (S_CREATE : Sta Z h0 "com/example/epochcast/epochcast/server/Txn$Type" "CREATE" "Lcom/example/epochcast/epochcast/server/Txn$Type;" (.ref w_CREATE)) (S_CREATE_SESSION : Sta Z h0 "com/example/epochcast/epochcast/server/Txn$Type" "CREATE_SESSION" "Lcom/example/epochcast/epochcast/server/Txn$Type;" (.ref w_CREATE_SESSION)) (n_w_CREATE_w_CREATE_SESSION : ¬ (w_CREATE = w_CREATE_SESSION)) (S_CLOSE_SESSION : Sta Z h0 "com/example/epochcast/epochcast/server/Txn$Type" "CLOSE_SESSION" "Lcom/example/epochcast/epochcast/server/Txn$Type;" (.ref w_CLOSE_SESSION)) (n_w_CLOSE_SESSION_w_CREATE : ¬ (w_CLOSE_SESSION = w_CREATE)) (S_AUTH : Sta Z h0 "com/example/epochcast/epochcast/server/Txn$Type" "AUTH" "Lcom/example/epochcast/epochcast/server/Txn$Type;" (.ref w_AUTH)) (n_w_AUTH_w_CREATE : ¬ (w_AUTH = w_CREATE)) :
    ∃ (T' : State) (L' : List Loc) (Ls : Array Slot), Stand p l e room_1 s m args below meth c T' L' 1 9 ∧ Fr n0 L' ∧ ∀ target, Steps p.tables e below (T'.setTop (mkF m 143 Ls [(.int 1)])) target → Steps p.tables e below (T0.setTop (mkF m 63 #[.val (.int p1), .val (.ref b1), .unset, .unset, .unset, .unset, .unset] [])) target := by
  obtain ⟨cq1, kq1, q1a, q1b, q1c⟩ := isOf hZ e0 E_w_CREATE
  obtain ⟨_, _, ⟨T1, L1, k1, n1⟩, -, X1, ⟨Lc1, hQ1, l1, y1, z1⟩, st1⟩ := X0.virtualBack hx (y := (⟨"com/example/epochcast/epochcast/server/Txn$Type", "code", "()I"⟩ : MethodName)) (z := (⟨"com/example/epochcast/epochcast/server/Txn$Type", "code", "()I"⟩ : MethodName)) hown (mvT hZ (hw _ (List.mem_of_getElem? (i := 23) rfl))) (mvT hZ (hw _ (List.mem_of_getElem? (i := 24) rfl))) (notFace_of_selects (args := #[]) (mvT hZ (hw _ (List.mem_of_getElem? (i := 26) rfl)))) (mvT hZ (hw _ (List.mem_of_getElem? (i := 26) rfl))) (mvT hZ (hw _ (List.mem_of_getElem? (i := 25) rfl))) (by decide) (backOf (W := 0) (rm1_w_CREATE l Z a0 hw [] w_CREATE h0 n0 Z0 F_code_w_CREATE) hZ (hw _ (List.mem_of_getElem? (i := 27) rfl)) (hw _ (List.mem_of_getElem? (i := 3) rfl)) (by decide) (by decide)) q1a q1c (g := (mkF m 76 #[.val (.int p1), .val (.ref b1), .val (.int 0), .val (.ref w_CREATE), .unset, .unset, .unset] [(.ref w_CREATE)])) rfl (by rw [hml]; rfl) (Steps.refl _) (argsL := []) (rest := []) (lenOf pd___I rfl) rfl (by show 2 * 0 + _ ≤ _; exact Nat.le_of_eq rfl) (hb hby at_76) (fun _ _ => ⟨rfl, e0, (by decide : 1 + 0 ≤ _), (by decide : 9 + 0 ≤ _)⟩)
  dsimp only [Pt.U, Pt.locs, Pt.cells, Pt.slots] at X1 l1 y1 z1 st1 hQ1
  subst l1 y1 z1
  obtain ⟨rfl, N1q, e1⟩ := hQ1
  have N1 := Fr.app N0 N1q
  obtain ⟨cq2, kq2, q2a, q2b, q2c⟩ := isOf hZ e1 E_w_CREATE
  obtain ⟨_, _, ⟨T2, L2, k2, n2⟩, -, X2, ⟨Lc2, hQ2, l2, y2, z2⟩, st2⟩ := X1.virtualBack hx (y := (⟨"com/example/epochcast/epochcast/server/Txn$Type", "isOperation", "()Z"⟩ : MethodName)) (z := (⟨"com/example/epochcast/epochcast/server/Txn$Type", "isOperation", "()Z"⟩ : MethodName)) hown (mvT hZ (hw _ (List.mem_of_getElem? (i := 30) rfl))) (mvT hZ (hw _ (List.mem_of_getElem? (i := 31) rfl))) (notFace_of_selects (args := #[]) (mvT hZ (hw _ (List.mem_of_getElem? (i := 33) rfl)))) (mvT hZ (hw _ (List.mem_of_getElem? (i := 33) rfl))) (mvT hZ (hw _ (List.mem_of_getElem? (i := 32) rfl))) (by decide) (backOf (W := 0) (rm2_w_CREATE l Z a0 hw [] w_CREATE h0 n0 Z0 S_CREATE) hZ (hw _ (List.mem_of_getElem? (i := 34) rfl)) (hw _ (List.mem_of_getElem? (i := 3) rfl)) (by decide) (by decide)) q2a q2c (g := (mkF m 114 #[.val (.int p1), .val (.ref b1), .val (.int 0), .val (.ref w_CREATE), .val (.int 1), .val (.int 1), .unset] [(.ref w_CREATE)])) rfl (by rw [hml]; rfl) (Steps.refl _) (argsL := []) (rest := []) (lenOf pd___Z rfl) rfl (by show 2 * 0 + _ ≤ _; exact Nat.le_of_eq rfl) (hb hby at_114) (fun _ _ => ⟨rfl, e1, (by decide : 1 + 0 ≤ _), (by decide : 9 + 0 ≤ _)⟩)
  dsimp only [Pt.U, Pt.locs, Pt.cells, Pt.slots] at X2 l2 y2 z2 st2 hQ2
  subst l2 y2 z2
  obtain ⟨rfl, N2q, e2⟩ := hQ2
  have N2 := Fr.app N1 N2q
  obtain ⟨cq3, kq3, q3a, q3b, q3c⟩ := isOf hZ e2 E_w_CREATE
  obtain ⟨_, _, ⟨T3, L3, k3, n3⟩, -, X3, ⟨Lc3, hQ3, l3, y3, z3⟩, st3⟩ := X2.virtualBack hx (y := (⟨"com/example/epochcast/epochcast/server/Txn$Type", "isSession", "()Z"⟩ : MethodName)) (z := (⟨"com/example/epochcast/epochcast/server/Txn$Type", "isSession", "()Z"⟩ : MethodName)) hown (mvT hZ (hw _ (List.mem_of_getElem? (i := 36) rfl))) (mvT hZ (hw _ (List.mem_of_getElem? (i := 37) rfl))) (notFace_of_selects (args := #[]) (mvT hZ (hw _ (List.mem_of_getElem? (i := 39) rfl)))) (mvT hZ (hw _ (List.mem_of_getElem? (i := 39) rfl))) (mvT hZ (hw _ (List.mem_of_getElem? (i := 38) rfl))) (by decide) (backOf (W := 0) (rm3_w_CREATE l Z a0 hw [] w_CREATE w_CREATE_SESSION w_CLOSE_SESSION w_AUTH h0 n0 Z0 S_CREATE_SESSION n_w_CREATE_w_CREATE_SESSION S_CLOSE_SESSION n_w_CLOSE_SESSION_w_CREATE S_AUTH n_w_AUTH_w_CREATE) hZ (hw _ (List.mem_of_getElem? (i := 40) rfl)) (hw _ (List.mem_of_getElem? (i := 3) rfl)) (by decide) (by decide)) q3a q3c (g := (mkF m 134 #[.val (.int p1), .val (.ref b1), .val (.int 0), .val (.ref w_CREATE), .val (.int 1), .val (.int 1), .val (.int 1)] [(.ref w_CREATE)])) rfl (by rw [hml]; rfl) (Steps.refl _) (argsL := []) (rest := []) (lenOf pd___Z rfl) rfl (by show 2 * 0 + _ ≤ _; exact Nat.le_of_eq rfl) (hb hby at_134) (fun _ _ => ⟨rfl, e2, (by decide : 1 + 0 ≤ _), (by decide : 9 + 0 ≤ _)⟩)
  dsimp only [Pt.U, Pt.locs, Pt.cells, Pt.slots] at X3 l3 y3 z3 st3 hQ3
  subst l3 y3 z3
  obtain ⟨rfl, N3q, e3⟩ := hQ3
  have N3 := Fr.app N2 N3q
  refine ⟨T3, _, #[.val (.int p1), .val (.ref b1), .val (.int 0), .val (.ref w_CREATE), .val (.int 1), .val (.int 1), .val (.int 1)], X3, N3, fun target kt => ?_⟩
  show Steps p.tables e below (T0.setTop (mkF m 63 #[.val (.int p1), .val (.ref b1), .unset, .unset, .unset, .unset, .unset] [])) _
  refine XS.iloadN X0.here hx rfl (hb hby at_63) rfl ?_
  show Steps p.tables e below (T0.setTop (mkF m 64 #[.val (.int p1), .val (.ref b1), .unset, .unset, .unset, .unset, .unset] [(.int p1)])) _
  refine X0.ldcInt hx hown (mvT hZ (hw _ (List.mem_of_getElem? (i := 22) rfl))) (g := (mkF m 64 #[.val (.int p1), .val (.ref b1), .unset, .unset, .unset, .unset, .unset] [(.int p1)])) rfl (hb hby at_64) _ ?_
  show Steps p.tables e below (T0.setTop (mkF m 66 #[.val (.int p1), .val (.ref b1), .unset, .unset, .unset, .unset, .unset] [(.int 2147483647), (.int p1)])) _
  refine XS.iand X0.here hx rfl (hb hby at_66) rfl ?_
  show Steps p.tables e below (T0.setTop (mkF m 67 #[.val (.int p1), .val (.ref b1), .unset, .unset, .unset, .unset, .unset] [(.int (p1 &&& (2147483647 : Int32)))])) _
  refine XS.bipush X0.here hx rfl (hb hby at_67) ?_
  show Steps p.tables e below (T0.setTop (mkF m 69 #[.val (.int p1), .val (.ref b1), .unset, .unset, .unset, .unset, .unset] [(.int 9), (.int (p1 &&& (2147483647 : Int32)))])) _
  refine iremM X0 hx rfl (hb hby at_69) rfl (by decide) ?_
  show Steps p.tables e below (T0.setTop (mkF m 70 #[.val (.int p1), .val (.ref b1), .unset, .unset, .unset, .unset, .unset] [(.int ((p1 &&& (2147483647 : Int32)) % (9 : Int32)))])) _
  rw [hk]
  show Steps p.tables e below (T0.setTop (mkF m 70 #[.val (.int p1), .val (.ref b1), .unset, .unset, .unset, .unset, .unset] [(.int 0)])) _
  refine XS.istoreN X0.here hx rfl (hb hby at_70) rfl (l' := #[.val (.int p1), .val (.ref b1), .val (.int 0), .unset, .unset, .unset, .unset]) rfl ?_
  show Steps p.tables e below (T0.setTop (mkF m 71 #[.val (.int p1), .val (.ref b1), .val (.int 0), .unset, .unset, .unset, .unset] [])) _
  refine XS.aloadN X0.here hx rfl (hb hby at_71) rfl rfl ?_
  show Steps p.tables e below (T0.setTop (mkF m 72 #[.val (.int p1), .val (.ref b1), .val (.int 0), .unset, .unset, .unset, .unset] [(.ref b1)])) _
  refine XS.iloadN X0.here hx rfl (hb hby at_72) rfl ?_
  show Steps p.tables e below (T0.setTop (mkF m 73 #[.val (.int p1), .val (.ref b1), .val (.int 0), .unset, .unset, .unset, .unset] [(.int 0), (.ref b1)])) _
  refine own_ldR X0 hx hZ e0 V_b1 (j := (0 : Int32)) ⟨by decide, by decide⟩ rfl (g := (mkF m 73 #[.val (.int p1), .val (.ref b1), .val (.int 0), .unset, .unset, .unset, .unset] [(.int 0), (.ref b1)])) rfl rfl (hb hby at_73) _ ?_
  show Steps p.tables e below (T0.setTop (mkF m 74 #[.val (.int p1), .val (.ref b1), .val (.int 0), .unset, .unset, .unset, .unset] [(.ref w_CREATE)])) _
  refine XS.astoreN X0.here hx rfl (hb hby at_74) rfl rfl (l' := #[.val (.int p1), .val (.ref b1), .val (.int 0), .val (.ref w_CREATE), .unset, .unset, .unset]) rfl ?_
  show Steps p.tables e below (T0.setTop (mkF m 75 #[.val (.int p1), .val (.ref b1), .val (.int 0), .val (.ref w_CREATE), .unset, .unset, .unset] [])) _
  refine XS.aloadN X0.here hx rfl (hb hby at_75) rfl rfl ?_
  show Steps p.tables e below (T0.setTop (mkF m 76 #[.val (.int p1), .val (.ref b1), .val (.int 0), .val (.ref w_CREATE), .unset, .unset, .unset] [(.ref w_CREATE)])) _
  refine st1.trans ?_
  show Steps p.tables e below (T1.setTop (mkF m 79 #[.val (.int p1), .val (.ref b1), .val (.int 0), .val (.ref w_CREATE), .unset, .unset, .unset] [(.int 1)])) _
  refine XS.istore X1.here hx rfl (hb hby at_79) rfl (l' := #[.val (.int p1), .val (.ref b1), .val (.int 0), .val (.ref w_CREATE), .val (.int 1), .unset, .unset]) rfl ?_
  show Steps p.tables e below (T1.setTop (mkF m 81 #[.val (.int p1), .val (.ref b1), .val (.int 0), .val (.ref w_CREATE), .val (.int 1), .unset, .unset] [])) _
  refine XS.iload X1.here hx rfl (hb hby at_81) rfl ?_
  show Steps p.tables e below (T1.setTop (mkF m 83 #[.val (.int p1), .val (.ref b1), .val (.int 0), .val (.ref w_CREATE), .val (.int 1), .unset, .unset] [(.int 1)])) _
  refine XS.iconst X1.here hx rfl (hb hby at_83) ?_
  show Steps p.tables e below (T1.setTop (mkF m 84 #[.val (.int p1), .val (.ref b1), .val (.int 0), .val (.ref w_CREATE), .val (.int 1), .unset, .unset] [(.int 1), (.int 1)])) _
  refine XS.icmpYes X1.here hx rfl (pc0 := 84) (pc' := 106) rfl (hb hby at_84) rfl (teq (by decide : (1 : Int32) = (1 : Int32))).1 (by decide) (by decide) ?_
  show Steps p.tables e below (T1.setTop (mkF m 106 #[.val (.int p1), .val (.ref b1), .val (.int 0), .val (.ref w_CREATE), .val (.int 1), .unset, .unset] [])) _
  refine XS.iconst X1.here hx rfl (hb hby at_106) ?_
  show Steps p.tables e below (T1.setTop (mkF m 107 #[.val (.int p1), .val (.ref b1), .val (.int 0), .val (.ref w_CREATE), .val (.int 1), .unset, .unset] [(.int 1)])) _
  refine XS.goto X1.here hx rfl (pc0 := 107) (pc' := 111) rfl (hb hby at_107) (by decide) (by decide) ?_
  show Steps p.tables e below (T1.setTop (mkF m 111 #[.val (.int p1), .val (.ref b1), .val (.int 0), .val (.ref w_CREATE), .val (.int 1), .unset, .unset] [(.int 1)])) _
  refine XS.istore X1.here hx rfl (hb hby at_111) rfl (l' := #[.val (.int p1), .val (.ref b1), .val (.int 0), .val (.ref w_CREATE), .val (.int 1), .val (.int 1), .unset]) rfl ?_
  show Steps p.tables e below (T1.setTop (mkF m 113 #[.val (.int p1), .val (.ref b1), .val (.int 0), .val (.ref w_CREATE), .val (.int 1), .val (.int 1), .unset] [])) _
  refine XS.aloadN X1.here hx rfl (hb hby at_113) rfl rfl ?_
  show Steps p.tables e below (T1.setTop (mkF m 114 #[.val (.int p1), .val (.ref b1), .val (.int 0), .val (.ref w_CREATE), .val (.int 1), .val (.int 1), .unset] [(.ref w_CREATE)])) _
  refine st2.trans ?_
  show Steps p.tables e below (T2.setTop (mkF m 117 #[.val (.int p1), .val (.ref b1), .val (.int 0), .val (.ref w_CREATE), .val (.int 1), .val (.int 1), .unset] [(.int 1)])) _
  refine XS.istore X2.here hx rfl (hb hby at_117) rfl (l' := #[.val (.int p1), .val (.ref b1), .val (.int 0), .val (.ref w_CREATE), .val (.int 1), .val (.int 1), .val (.int 1)]) rfl ?_
  show Steps p.tables e below (T2.setTop (mkF m 119 #[.val (.int p1), .val (.ref b1), .val (.int 0), .val (.ref w_CREATE), .val (.int 1), .val (.int 1), .val (.int 1)] [])) _
  refine XS.iload X2.here hx rfl (hb hby at_119) rfl ?_
  show Steps p.tables e below (T2.setTop (mkF m 121 #[.val (.int p1), .val (.ref b1), .val (.int 0), .val (.ref w_CREATE), .val (.int 1), .val (.int 1), .val (.int 1)] [(.int 1)])) _
  refine XS.iload X2.here hx rfl (hb hby at_121) rfl ?_
  show Steps p.tables e below (T2.setTop (mkF m 123 #[.val (.int p1), .val (.ref b1), .val (.int 0), .val (.ref w_CREATE), .val (.int 1), .val (.int 1), .val (.int 1)] [(.int 1), (.int 1)])) _
  refine XS.icmpYes X2.here hx rfl (pc0 := 123) (pc' := 128) rfl (hb hby at_123) rfl (teq (by decide : (1 : Int32) = (1 : Int32))).1 (by decide) (by decide) ?_
  show Steps p.tables e below (T2.setTop (mkF m 128 #[.val (.int p1), .val (.ref b1), .val (.int 0), .val (.ref w_CREATE), .val (.int 1), .val (.int 1), .val (.int 1)] [])) _
  refine XS.iload X2.here hx rfl (hb hby at_128) rfl ?_
  show Steps p.tables e below (T2.setTop (mkF m 130 #[.val (.int p1), .val (.ref b1), .val (.int 0), .val (.ref w_CREATE), .val (.int 1), .val (.int 1), .val (.int 1)] [(.int 1)])) _
  refine XS.ifNo X2.here hx rfl (hb hby at_130) rfl ((if0 _ _).trans (feq (by decide : ¬ ((1 : Int32) = (0 : Int32)))).1) ?_
  show Steps p.tables e below (T2.setTop (mkF m 133 #[.val (.int p1), .val (.ref b1), .val (.int 0), .val (.ref w_CREATE), .val (.int 1), .val (.int 1), .val (.int 1)] [])) _
  refine XS.aloadN X2.here hx rfl (hb hby at_133) rfl rfl ?_
  show Steps p.tables e below (T2.setTop (mkF m 134 #[.val (.int p1), .val (.ref b1), .val (.int 0), .val (.ref w_CREATE), .val (.int 1), .val (.int 1), .val (.int 1)] [(.ref w_CREATE)])) _
  refine st3.trans ?_
  show Steps p.tables e below (T3.setTop (mkF m 137 #[.val (.int p1), .val (.ref b1), .val (.int 0), .val (.ref w_CREATE), .val (.int 1), .val (.int 1), .val (.int 1)] [(.int 0)])) _
  refine XS.ifYes X3.here hx rfl (pc0 := 137) (pc' := 142) rfl (hb hby at_137) rfl ((if0 _ _).trans (teq (by decide : (0 : Int32) = (0 : Int32))).1) (by decide) (by decide) ?_
  show Steps p.tables e below (T3.setTop (mkF m 142 #[.val (.int p1), .val (.ref b1), .val (.int 0), .val (.ref w_CREATE), .val (.int 1), .val (.int 1), .val (.int 1)] [])) _
  refine XS.iconst X3.here hx rfl (hb hby at_142) ?_
  show Steps p.tables e below (T3.setTop (mkF m 143 #[.val (.int p1), .val (.ref b1), .val (.int 0), .val (.ref w_CREATE), .val (.int 1), .val (.int 1), .val (.int 1)] [(.int 1)])) _
  exact kt
def Q1_w_DELETE (Z : State) (w_DELETE : Addr) (h0 : Heap) (n0 : Nat) (v : Option Value) (h : Heap) (L : List Loc) : Prop := v = some (.int 2) ∧ Fr n0 L ∧ h = h0
set_option maxRecDepth 65536 in
set_option maxHeartbeats 40000000 in
theorem rm1_w_DELETE (l : Launch) (Z : State) (a0 : Array Value) (hw : ∀ d ∈ tables_1, d.before a0 Z = true) (ws : List Jvm.Cond) (w_DELETE : Addr) (h0 : Heap) (n0 : Nat) (Z0 : n0 ≤ h0.size) (F_code_w_DELETE : Fld Z h0 w_DELETE "com/example/epochcast/epochcast/server/Txn$Type" "code" "I" (.int 2)) :
    MetFree l (⟨"com/example/epochcast/epochcast/server/Txn$Type", "code", "()I"⟩ : MethodName) (head1 (Jvm.Cond.code (⟨"com/example/epochcast/epochcast/server/Txn$Type", "code", "()I"⟩ : MethodName) prog_202_method_4_code 1 (some .int) :: ws) ({ frames := 0, cells := 0, slots := 0, locals := 0 } : Room)) (fun a U => a = #[(.ref w_DELETE)] ∧ Z.Warmed39 U.vm ∧ U.heap = h0) (fun _ _ _ _ _ => True) (fun _ U o U' => ∃ v L, o = .returned v ∧ Q1_w_DELETE Z w_DELETE h0 n0 v U'.heap L ∧ FrameEnd U o U' L ({ frames := 0, cells := 0, slots := 0, locals := 0 } : Room).cells ({ frames := 0, cells := 0, slots := 0, locals := 0 } : Room).slots) := by
  refine MetFree.of_bodySF (plainFor_of_name pn_1) hisR ?_
  intro p e s m args below meth c s₁ Bd hml0 hP hK
  obtain ⟨rfl, hZ, hh⟩ := hP
  have hx := Bd.exec
  have hby := Bd.bytes
  have hml : c.maxLocals = 1 := hml0
  have hown : s.vm.findClass "com/example/epochcast/epochcast/server/Txn$Type" = some m.cls := findClass_of_methodNamed Bd.named
  have hnm := (name_of_methodNamed Bd.named Bd.method).1
  have X0 : Stand p l e ({ frames := 0, cells := 0, slots := 0, locals := 0 } : Room) s m #[(.ref w_DELETE)] below meth c s₁ [] 0 0 := Stand.of_body Bd
  have e0 : s₁.heap = h0 := by rw [← hh, Bd.state]; rfl
  have N0 := Fr.nil n0
  have pre0 : ∀ t, Steps p.tables e below (s₁.setTop (mkF m 0 #[.val (.ref w_DELETE)] [])) t → Steps p.tables e below (s₁.setTop (entryFrame m #[(.ref w_DELETE)] 1)) t := fun t k => castTop (by first | (simp [entryFrame, mkF, argsToLocals, Value.category]; done) | rfl) k
  obtain ⟨T1, X1, e1, st1⟩ := getF X0 hx hZ hown (host := "") (Or.inl (hw _ (List.mem_of_getElem? (i := 28) rfl))) Via.refl e0 F_code_w_DELETE (g := (mkF m 1 #[.val (.ref w_DELETE)] [(.ref w_DELETE)])) rfl rfl (hb hby d1_1)
  obtain ⟨fs, hr, hrun, hended, hW, hsame⟩ := X1.leave (v := some (.int 2)) (fun h => by rw [Bd.returns] at h; cases h)
  refine ⟨_, _, pre0 _ ?_, hrun, hended, _, _, rfl, ?_, ⟨_, rfl⟩, hW, hsame.mono (by decide) (by decide)⟩
  · show Steps p.tables e below (s₁.setTop (mkF m 0 #[.val (.ref w_DELETE)] [])) _
    refine XS.aloadN X0.here hx rfl (hb hby d1_0) rfl rfl ?_
    show Steps p.tables e below (s₁.setTop (mkF m 1 #[.val (.ref w_DELETE)] [(.ref w_DELETE)])) _
    refine st1 _ ?_
    show Steps p.tables e below (T1.setTop (mkF m 4 #[.val (.ref w_DELETE)] [(.int 2)])) _
    exact retI X1 hx Bd.returns (hb hby d1_4) hr
  · show Q1_w_DELETE Z w_DELETE h0 n0 _ T1.heap _
    rw [e1]
    exact ⟨rfl, N0, rfl⟩
def Q2_w_DELETE (Z : State) (w_DELETE : Addr) (w_CREATE : Addr) (h0 : Heap) (n0 : Nat) (v : Option Value) (h : Heap) (L : List Loc) : Prop := v = some (.int 1) ∧ Fr n0 L ∧ h = h0
set_option maxRecDepth 65536 in
set_option maxHeartbeats 40000000 in
theorem rm2_w_DELETE (l : Launch) (Z : State) (a0 : Array Value) (hw : ∀ d ∈ tables_1, d.before a0 Z = true) (ws : List Jvm.Cond) (w_DELETE : Addr) (w_CREATE : Addr) (h0 : Heap) (n0 : Nat) (Z0 : n0 ≤ h0.size) (S_CREATE : Sta Z h0 "com/example/epochcast/epochcast/server/Txn$Type" "CREATE" "Lcom/example/epochcast/epochcast/server/Txn$Type;" (.ref w_CREATE)) (n_w_CREATE_w_DELETE : ¬ (w_CREATE = w_DELETE)) (S_DELETE : Sta Z h0 "com/example/epochcast/epochcast/server/Txn$Type" "DELETE" "Lcom/example/epochcast/epochcast/server/Txn$Type;" (.ref w_DELETE)) :
    MetFree l (⟨"com/example/epochcast/epochcast/server/Txn$Type", "isOperation", "()Z"⟩ : MethodName) (head1 (Jvm.Cond.code (⟨"com/example/epochcast/epochcast/server/Txn$Type", "isOperation", "()Z"⟩ : MethodName) prog_202_method_6_code 1 (some .boolean) :: ws) ({ frames := 0, cells := 0, slots := 0, locals := 0 } : Room)) (fun a U => a = #[(.ref w_DELETE)] ∧ Z.Warmed39 U.vm ∧ U.heap = h0) (fun _ _ _ _ _ => True) (fun _ U o U' => ∃ v L, o = .returned v ∧ Q2_w_DELETE Z w_DELETE w_CREATE h0 n0 v U'.heap L ∧ FrameEnd U o U' L ({ frames := 0, cells := 0, slots := 0, locals := 0 } : Room).cells ({ frames := 0, cells := 0, slots := 0, locals := 0 } : Room).slots) := by
  refine MetFree.of_bodySF (plainFor_of_name pn_2) hisR ?_
  intro p e s m args below meth c s₁ Bd hml0 hP hK
  obtain ⟨rfl, hZ, hh⟩ := hP
  have hx := Bd.exec
  have hby := Bd.bytes
  have hml : c.maxLocals = 1 := hml0
  have hown : s.vm.findClass "com/example/epochcast/epochcast/server/Txn$Type" = some m.cls := findClass_of_methodNamed Bd.named
  have hnm := (name_of_methodNamed Bd.named Bd.method).1
  have X0 : Stand p l e ({ frames := 0, cells := 0, slots := 0, locals := 0 } : Room) s m #[(.ref w_DELETE)] below meth c s₁ [] 0 0 := Stand.of_body Bd
  have e0 : s₁.heap = h0 := by rw [← hh, Bd.state]; rfl
  have N0 := Fr.nil n0
  have pre0 : ∀ t, Steps p.tables e below (s₁.setTop (mkF m 0 #[.val (.ref w_DELETE)] [])) t → Steps p.tables e below (s₁.setTop (entryFrame m #[(.ref w_DELETE)] 1)) t := fun t k => castTop (by first | (simp [entryFrame, mkF, argsToLocals, Value.category]; done) | rfl) k
  obtain ⟨T1, X1, e1, st1⟩ := getS2 X0 hx hZ hown (host := "") (Or.inl (hw _ (List.mem_of_getElem? (i := 35) rfl))) Via.refl e0 S_CREATE (g := (mkF m 1 #[.val (.ref w_DELETE)] [(.ref w_DELETE)])) rfl (hb hby d2_1)
  obtain ⟨T2, X2, e2, st2⟩ := getS2 X1 hx hZ hown (host := "") (Or.inl (hw _ (List.mem_of_getElem? (i := 44) rfl))) Via.refl e1 S_DELETE (g := (mkF m 8 #[.val (.ref w_DELETE)] [(.ref w_DELETE)])) rfl (hb hby d2_8)
  obtain ⟨fs, hr, hrun, hended, hW, hsame⟩ := X2.leave (v := some (.int 1)) (fun h => by rw [Bd.returns] at h; cases h)
  refine ⟨_, _, pre0 _ ?_, hrun, hended, _, _, rfl, ?_, ⟨_, rfl⟩, hW, hsame.mono (by decide) (by decide)⟩
  · show Steps p.tables e below (s₁.setTop (mkF m 0 #[.val (.ref w_DELETE)] [])) _
    refine XS.aloadN X0.here hx rfl (hb hby d2_0) rfl rfl ?_
    show Steps p.tables e below (s₁.setTop (mkF m 1 #[.val (.ref w_DELETE)] [(.ref w_DELETE)])) _
    refine st1 _ ?_
    show Steps p.tables e below (T1.setTop (mkF m 4 #[.val (.ref w_DELETE)] [(.ref w_CREATE), (.ref w_DELETE)])) _
    refine Jvm.RoadKit.acmp (g := (mkF m 4 #[.val (.ref w_DELETE)] [(.ref w_CREATE), (.ref w_DELETE)])) X1 hx rfl rfl rfl (pc0 := 4) (pc' := 7) (same := false) rfl (hb hby d2_4) rfl (decide_eq_false fun q => (Ne.symm n_w_CREATE_w_DELETE) (Value.ref.inj q)) (by decide) (by decide) ?_
    show Steps p.tables e below (T1.setTop (mkF m 7 #[.val (.ref w_DELETE)] [])) _
    refine XS.aloadN X1.here hx rfl (hb hby d2_7) rfl rfl ?_
    show Steps p.tables e below (T1.setTop (mkF m 8 #[.val (.ref w_DELETE)] [(.ref w_DELETE)])) _
    refine st2 _ ?_
    show Steps p.tables e below (T2.setTop (mkF m 11 #[.val (.ref w_DELETE)] [(.ref w_DELETE), (.ref w_DELETE)])) _
    refine Jvm.RoadKit.acmp (g := (mkF m 11 #[.val (.ref w_DELETE)] [(.ref w_DELETE), (.ref w_DELETE)])) X2 hx rfl rfl rfl (pc0 := 11) (pc' := 28) (same := true) rfl (hb hby d2_11) rfl (decide_eq_true rfl) (by decide) (by decide) ?_
    show Steps p.tables e below (T2.setTop (mkF m 28 #[.val (.ref w_DELETE)] [])) _
    refine XS.iconst X2.here hx rfl (hb hby d2_28) ?_
    show Steps p.tables e below (T2.setTop (mkF m 29 #[.val (.ref w_DELETE)] [(.int 1)])) _
    refine XS.goto X2.here hx rfl (pc0 := 29) (pc' := 33) rfl (hb hby d2_29) (by decide) (by decide) ?_
    show Steps p.tables e below (T2.setTop (mkF m 33 #[.val (.ref w_DELETE)] [(.int 1)])) _
    exact retN X2 hx (t := .boolean) Bd.returns (by simp) (hb hby d2_33) hr
  · show Q2_w_DELETE Z w_DELETE w_CREATE h0 n0 _ T2.heap _
    rw [e2]
    exact ⟨rfl, N0, rfl⟩
def Q3_w_DELETE (Z : State) (w_DELETE : Addr) (w_CREATE_SESSION : Addr) (w_CLOSE_SESSION : Addr) (w_AUTH : Addr) (h0 : Heap) (n0 : Nat) (v : Option Value) (h : Heap) (L : List Loc) : Prop := v = some (.int 0) ∧ Fr n0 L ∧ h = h0
set_option maxRecDepth 65536 in
set_option maxHeartbeats 40000000 in
theorem rm3_w_DELETE (l : Launch) (Z : State) (a0 : Array Value) (hw : ∀ d ∈ tables_1, d.before a0 Z = true) (ws : List Jvm.Cond) (w_DELETE : Addr) (w_CREATE_SESSION : Addr) (w_CLOSE_SESSION : Addr) (w_AUTH : Addr) (h0 : Heap) (n0 : Nat) (Z0 : n0 ≤ h0.size) (S_CREATE_SESSION : Sta Z h0 "com/example/epochcast/epochcast/server/Txn$Type" "CREATE_SESSION" "Lcom/example/epochcast/epochcast/server/Txn$Type;" (.ref w_CREATE_SESSION)) (n_w_CREATE_SESSION_w_DELETE : ¬ (w_CREATE_SESSION = w_DELETE)) (S_CLOSE_SESSION : Sta Z h0 "com/example/epochcast/epochcast/server/Txn$Type" "CLOSE_SESSION" "Lcom/example/epochcast/epochcast/server/Txn$Type;" (.ref w_CLOSE_SESSION)) (n_w_CLOSE_SESSION_w_DELETE : ¬ (w_CLOSE_SESSION = w_DELETE)) (S_AUTH : Sta Z h0 "com/example/epochcast/epochcast/server/Txn$Type" "AUTH" "Lcom/example/epochcast/epochcast/server/Txn$Type;" (.ref w_AUTH)) (n_w_AUTH_w_DELETE : ¬ (w_AUTH = w_DELETE)) :
    MetFree l (⟨"com/example/epochcast/epochcast/server/Txn$Type", "isSession", "()Z"⟩ : MethodName) (head1 (Jvm.Cond.code (⟨"com/example/epochcast/epochcast/server/Txn$Type", "isSession", "()Z"⟩ : MethodName) prog_202_method_5_code 1 (some .boolean) :: ws) ({ frames := 0, cells := 0, slots := 0, locals := 0 } : Room)) (fun a U => a = #[(.ref w_DELETE)] ∧ Z.Warmed39 U.vm ∧ U.heap = h0) (fun _ _ _ _ _ => True) (fun _ U o U' => ∃ v L, o = .returned v ∧ Q3_w_DELETE Z w_DELETE w_CREATE_SESSION w_CLOSE_SESSION w_AUTH h0 n0 v U'.heap L ∧ FrameEnd U o U' L ({ frames := 0, cells := 0, slots := 0, locals := 0 } : Room).cells ({ frames := 0, cells := 0, slots := 0, locals := 0 } : Room).slots) := by
  refine MetFree.of_bodySF (plainFor_of_name pn_3) hisR ?_
  intro p e s m args below meth c s₁ Bd hml0 hP hK
  obtain ⟨rfl, hZ, hh⟩ := hP
  have hx := Bd.exec
  have hby := Bd.bytes
  have hml : c.maxLocals = 1 := hml0
  have hown : s.vm.findClass "com/example/epochcast/epochcast/server/Txn$Type" = some m.cls := findClass_of_methodNamed Bd.named
  have hnm := (name_of_methodNamed Bd.named Bd.method).1
  have X0 : Stand p l e ({ frames := 0, cells := 0, slots := 0, locals := 0 } : Room) s m #[(.ref w_DELETE)] below meth c s₁ [] 0 0 := Stand.of_body Bd
  have e0 : s₁.heap = h0 := by rw [← hh, Bd.state]; rfl
  have N0 := Fr.nil n0
  have pre0 : ∀ t, Steps p.tables e below (s₁.setTop (mkF m 0 #[.val (.ref w_DELETE)] [])) t → Steps p.tables e below (s₁.setTop (entryFrame m #[(.ref w_DELETE)] 1)) t := fun t k => castTop (by first | (simp [entryFrame, mkF, argsToLocals, Value.category]; done) | rfl) k
  obtain ⟨T1, X1, e1, st1⟩ := getS2 X0 hx hZ hown (host := "") (Or.inl (hw _ (List.mem_of_getElem? (i := 41) rfl))) Via.refl e0 S_CREATE_SESSION (g := (mkF m 1 #[.val (.ref w_DELETE)] [(.ref w_DELETE)])) rfl (hb hby d3_1)
  obtain ⟨T2, X2, e2, st2⟩ := getS2 X1 hx hZ hown (host := "") (Or.inl (hw _ (List.mem_of_getElem? (i := 42) rfl))) Via.refl e1 S_CLOSE_SESSION (g := (mkF m 8 #[.val (.ref w_DELETE)] [(.ref w_DELETE)])) rfl (hb hby d3_8)
  obtain ⟨T3, X3, e3, st3⟩ := getS2 X2 hx hZ hown (host := "") (Or.inl (hw _ (List.mem_of_getElem? (i := 43) rfl))) Via.refl e2 S_AUTH (g := (mkF m 15 #[.val (.ref w_DELETE)] [(.ref w_DELETE)])) rfl (hb hby d3_15)
  obtain ⟨fs, hr, hrun, hended, hW, hsame⟩ := X3.leave (v := some (.int 0)) (fun h => by rw [Bd.returns] at h; cases h)
  refine ⟨_, _, pre0 _ ?_, hrun, hended, _, _, rfl, ?_, ⟨_, rfl⟩, hW, hsame.mono (by decide) (by decide)⟩
  · show Steps p.tables e below (s₁.setTop (mkF m 0 #[.val (.ref w_DELETE)] [])) _
    refine XS.aloadN X0.here hx rfl (hb hby d3_0) rfl rfl ?_
    show Steps p.tables e below (s₁.setTop (mkF m 1 #[.val (.ref w_DELETE)] [(.ref w_DELETE)])) _
    refine st1 _ ?_
    show Steps p.tables e below (T1.setTop (mkF m 4 #[.val (.ref w_DELETE)] [(.ref w_CREATE_SESSION), (.ref w_DELETE)])) _
    refine Jvm.RoadKit.acmp (g := (mkF m 4 #[.val (.ref w_DELETE)] [(.ref w_CREATE_SESSION), (.ref w_DELETE)])) X1 hx rfl rfl rfl (pc0 := 4) (pc' := 7) (same := false) rfl (hb hby d3_4) rfl (decide_eq_false fun q => (Ne.symm n_w_CREATE_SESSION_w_DELETE) (Value.ref.inj q)) (by decide) (by decide) ?_
    show Steps p.tables e below (T1.setTop (mkF m 7 #[.val (.ref w_DELETE)] [])) _
    refine XS.aloadN X1.here hx rfl (hb hby d3_7) rfl rfl ?_
    show Steps p.tables e below (T1.setTop (mkF m 8 #[.val (.ref w_DELETE)] [(.ref w_DELETE)])) _
    refine st2 _ ?_
    show Steps p.tables e below (T2.setTop (mkF m 11 #[.val (.ref w_DELETE)] [(.ref w_CLOSE_SESSION), (.ref w_DELETE)])) _
    refine Jvm.RoadKit.acmp (g := (mkF m 11 #[.val (.ref w_DELETE)] [(.ref w_CLOSE_SESSION), (.ref w_DELETE)])) X2 hx rfl rfl rfl (pc0 := 11) (pc' := 14) (same := false) rfl (hb hby d3_11) rfl (decide_eq_false fun q => (Ne.symm n_w_CLOSE_SESSION_w_DELETE) (Value.ref.inj q)) (by decide) (by decide) ?_
    show Steps p.tables e below (T2.setTop (mkF m 14 #[.val (.ref w_DELETE)] [])) _
    refine XS.aloadN X2.here hx rfl (hb hby d3_14) rfl rfl ?_
    show Steps p.tables e below (T2.setTop (mkF m 15 #[.val (.ref w_DELETE)] [(.ref w_DELETE)])) _
    refine st3 _ ?_
    show Steps p.tables e below (T3.setTop (mkF m 18 #[.val (.ref w_DELETE)] [(.ref w_AUTH), (.ref w_DELETE)])) _
    refine Jvm.RoadKit.acmp (g := (mkF m 18 #[.val (.ref w_DELETE)] [(.ref w_AUTH), (.ref w_DELETE)])) X3 hx rfl rfl rfl (pc0 := 18) (pc' := 25) (same := false) rfl (hb hby d3_18) rfl (decide_eq_false fun q => (Ne.symm n_w_AUTH_w_DELETE) (Value.ref.inj q)) (by decide) (by decide) ?_
    show Steps p.tables e below (T3.setTop (mkF m 25 #[.val (.ref w_DELETE)] [])) _
    refine XS.iconst X3.here hx rfl (hb hby d3_25) ?_
    show Steps p.tables e below (T3.setTop (mkF m 26 #[.val (.ref w_DELETE)] [(.int 0)])) _
    exact retN X3 hx (t := .boolean) Bd.returns (by simp) (hb hby d3_26) hr
  · show Q3_w_DELETE Z w_DELETE w_CREATE_SESSION w_CLOSE_SESSION w_AUTH h0 n0 _ T3.heap _
    rw [e3]
    exact ⟨rfl, N0, rfl⟩
set_option maxRecDepth 65536 in
set_option maxHeartbeats 40000000 in
theorem pc0_k1 {p : Program} {l : Launch} {e : Env} {s : State} {m : MethodId} {args : Array Value} {below : List Frame} {meth : Method} {c : Code} {T0 : State} {locs : List Loc} {Z : State} {a0 : Array Value} {h0 : Heap} {n0 : Nat} (p1 : Int32) (b1 : Addr) (k1 : ClassId) (w_CREATE : Addr) (w_DELETE : Addr) (w_SET_DATA : Addr) (w_SET_ACL : Addr) (w_CHECK : Addr) (w_MULTI : Addr) (w_CREATE_SESSION : Addr) (w_CLOSE_SESSION : Addr) (w_AUTH : Addr)
    (X0 : Stand p l e room_1 s m args below meth c T0 locs 1 9) (hx : p.tables.exec = Jvm.exec) (hZ : Z.Warmed39 s.vm) (hw : ∀ d ∈ tables_1, d.before a0 Z = true) (hby : c.code = code) (hml : c.maxLocals = 7) (hown : s.vm.findClass "com/example/epochcast/epochcast/server/TypeIsOperationPinLaw" = some m.cls) (e0 : T0.heap = h0) (Z0 : n0 ≤ h0.size) (N0 : Fr n0 locs) (hk : ((p1 &&& (2147483647 : Int32)) % (9 : Int32)) = (1 : Int32)) (V_b1 : Arv Z h0 b1 k1 (.object "com/example/epochcast/epochcast/server/Txn$Type") (9 : Int32) [(.ref w_CREATE), (.ref w_DELETE), (.ref w_SET_DATA), (.ref w_SET_ACL), (.ref w_CHECK), (.ref w_MULTI), (.ref w_CREATE_SESSION), (.ref w_CLOSE_SESSION), (.ref w_AUTH)] .null) (F_code_w_DELETE : Fld Z h0 w_DELETE "com/example/epochcast/epochcast/server/Txn$Type" "code" "I" (.int 2)) (E_w_DELETE : Exa Z h0 w_DELETE "com/example/epochcast/epochcast/server/Txn$Type") (S_CREATE : Sta Z h0 "com/example/epochcast/epochcast/server/Txn$Type" "CREATE" "Lcom/example/epochcast/epochcast/server/Txn$Type;" (.ref w_CREATE)) (n_w_CREATE_w_DELETE : ¬ (w_CREATE = w_DELETE)) (S_DELETE : Sta Z h0 "com/example/epochcast/epochcast/server/Txn$Type" "DELETE" "Lcom/example/epochcast/epochcast/server/Txn$Type;" (.ref w_DELETE)) (S_CREATE_SESSION : Sta Z h0 "com/example/epochcast/epochcast/server/Txn$Type" "CREATE_SESSION" "Lcom/example/epochcast/epochcast/server/Txn$Type;" (.ref w_CREATE_SESSION)) (n_w_CREATE_SESSION_w_DELETE : ¬ (w_CREATE_SESSION = w_DELETE)) (S_CLOSE_SESSION : Sta Z h0 "com/example/epochcast/epochcast/server/Txn$Type" "CLOSE_SESSION" "Lcom/example/epochcast/epochcast/server/Txn$Type;" (.ref w_CLOSE_SESSION)) (n_w_CLOSE_SESSION_w_DELETE : ¬ (w_CLOSE_SESSION = w_DELETE)) (S_AUTH : Sta Z h0 "com/example/epochcast/epochcast/server/Txn$Type" "AUTH" "Lcom/example/epochcast/epochcast/server/Txn$Type;" (.ref w_AUTH)) (n_w_AUTH_w_DELETE : ¬ (w_AUTH = w_DELETE)) :
    ∃ (T' : State) (L' : List Loc) (Ls : Array Slot), Stand p l e room_1 s m args below meth c T' L' 1 9 ∧ Fr n0 L' ∧ ∀ target, Steps p.tables e below (T'.setTop (mkF m 143 Ls [(.int 1)])) target → Steps p.tables e below (T0.setTop (mkF m 63 #[.val (.int p1), .val (.ref b1), .unset, .unset, .unset, .unset, .unset] [])) target := by
  obtain ⟨cq1, kq1, q1a, q1b, q1c⟩ := isOf hZ e0 E_w_DELETE
  obtain ⟨_, _, ⟨T1, L1, k1, n1⟩, -, X1, ⟨Lc1, hQ1, l1, y1, z1⟩, st1⟩ := X0.virtualBack hx (y := (⟨"com/example/epochcast/epochcast/server/Txn$Type", "code", "()I"⟩ : MethodName)) (z := (⟨"com/example/epochcast/epochcast/server/Txn$Type", "code", "()I"⟩ : MethodName)) hown (mvT hZ (hw _ (List.mem_of_getElem? (i := 23) rfl))) (mvT hZ (hw _ (List.mem_of_getElem? (i := 24) rfl))) (notFace_of_selects (args := #[]) (mvT hZ (hw _ (List.mem_of_getElem? (i := 26) rfl)))) (mvT hZ (hw _ (List.mem_of_getElem? (i := 26) rfl))) (mvT hZ (hw _ (List.mem_of_getElem? (i := 25) rfl))) (by decide) (backOf (W := 0) (rm1_w_DELETE l Z a0 hw [] w_DELETE h0 n0 Z0 F_code_w_DELETE) hZ (hw _ (List.mem_of_getElem? (i := 27) rfl)) (hw _ (List.mem_of_getElem? (i := 3) rfl)) (by decide) (by decide)) q1a q1c (g := (mkF m 76 #[.val (.int p1), .val (.ref b1), .val (.int 1), .val (.ref w_DELETE), .unset, .unset, .unset] [(.ref w_DELETE)])) rfl (by rw [hml]; rfl) (Steps.refl _) (argsL := []) (rest := []) (lenOf pd___I rfl) rfl (by show 2 * 0 + _ ≤ _; exact Nat.le_of_eq rfl) (hb hby at_76) (fun _ _ => ⟨rfl, e0, (by decide : 1 + 0 ≤ _), (by decide : 9 + 0 ≤ _)⟩)
  dsimp only [Pt.U, Pt.locs, Pt.cells, Pt.slots] at X1 l1 y1 z1 st1 hQ1
  subst l1 y1 z1
  obtain ⟨rfl, N1q, e1⟩ := hQ1
  have N1 := Fr.app N0 N1q
  obtain ⟨cq2, kq2, q2a, q2b, q2c⟩ := isOf hZ e1 E_w_DELETE
  obtain ⟨_, _, ⟨T2, L2, k2, n2⟩, -, X2, ⟨Lc2, hQ2, l2, y2, z2⟩, st2⟩ := X1.virtualBack hx (y := (⟨"com/example/epochcast/epochcast/server/Txn$Type", "isOperation", "()Z"⟩ : MethodName)) (z := (⟨"com/example/epochcast/epochcast/server/Txn$Type", "isOperation", "()Z"⟩ : MethodName)) hown (mvT hZ (hw _ (List.mem_of_getElem? (i := 30) rfl))) (mvT hZ (hw _ (List.mem_of_getElem? (i := 31) rfl))) (notFace_of_selects (args := #[]) (mvT hZ (hw _ (List.mem_of_getElem? (i := 33) rfl)))) (mvT hZ (hw _ (List.mem_of_getElem? (i := 33) rfl))) (mvT hZ (hw _ (List.mem_of_getElem? (i := 32) rfl))) (by decide) (backOf (W := 0) (rm2_w_DELETE l Z a0 hw [] w_DELETE w_CREATE h0 n0 Z0 S_CREATE n_w_CREATE_w_DELETE S_DELETE) hZ (hw _ (List.mem_of_getElem? (i := 34) rfl)) (hw _ (List.mem_of_getElem? (i := 3) rfl)) (by decide) (by decide)) q2a q2c (g := (mkF m 114 #[.val (.int p1), .val (.ref b1), .val (.int 1), .val (.ref w_DELETE), .val (.int 2), .val (.int 1), .unset] [(.ref w_DELETE)])) rfl (by rw [hml]; rfl) (Steps.refl _) (argsL := []) (rest := []) (lenOf pd___Z rfl) rfl (by show 2 * 0 + _ ≤ _; exact Nat.le_of_eq rfl) (hb hby at_114) (fun _ _ => ⟨rfl, e1, (by decide : 1 + 0 ≤ _), (by decide : 9 + 0 ≤ _)⟩)
  dsimp only [Pt.U, Pt.locs, Pt.cells, Pt.slots] at X2 l2 y2 z2 st2 hQ2
  subst l2 y2 z2
  obtain ⟨rfl, N2q, e2⟩ := hQ2
  have N2 := Fr.app N1 N2q
  obtain ⟨cq3, kq3, q3a, q3b, q3c⟩ := isOf hZ e2 E_w_DELETE
  obtain ⟨_, _, ⟨T3, L3, k3, n3⟩, -, X3, ⟨Lc3, hQ3, l3, y3, z3⟩, st3⟩ := X2.virtualBack hx (y := (⟨"com/example/epochcast/epochcast/server/Txn$Type", "isSession", "()Z"⟩ : MethodName)) (z := (⟨"com/example/epochcast/epochcast/server/Txn$Type", "isSession", "()Z"⟩ : MethodName)) hown (mvT hZ (hw _ (List.mem_of_getElem? (i := 36) rfl))) (mvT hZ (hw _ (List.mem_of_getElem? (i := 37) rfl))) (notFace_of_selects (args := #[]) (mvT hZ (hw _ (List.mem_of_getElem? (i := 39) rfl)))) (mvT hZ (hw _ (List.mem_of_getElem? (i := 39) rfl))) (mvT hZ (hw _ (List.mem_of_getElem? (i := 38) rfl))) (by decide) (backOf (W := 0) (rm3_w_DELETE l Z a0 hw [] w_DELETE w_CREATE_SESSION w_CLOSE_SESSION w_AUTH h0 n0 Z0 S_CREATE_SESSION n_w_CREATE_SESSION_w_DELETE S_CLOSE_SESSION n_w_CLOSE_SESSION_w_DELETE S_AUTH n_w_AUTH_w_DELETE) hZ (hw _ (List.mem_of_getElem? (i := 40) rfl)) (hw _ (List.mem_of_getElem? (i := 3) rfl)) (by decide) (by decide)) q3a q3c (g := (mkF m 134 #[.val (.int p1), .val (.ref b1), .val (.int 1), .val (.ref w_DELETE), .val (.int 2), .val (.int 1), .val (.int 1)] [(.ref w_DELETE)])) rfl (by rw [hml]; rfl) (Steps.refl _) (argsL := []) (rest := []) (lenOf pd___Z rfl) rfl (by show 2 * 0 + _ ≤ _; exact Nat.le_of_eq rfl) (hb hby at_134) (fun _ _ => ⟨rfl, e2, (by decide : 1 + 0 ≤ _), (by decide : 9 + 0 ≤ _)⟩)
  dsimp only [Pt.U, Pt.locs, Pt.cells, Pt.slots] at X3 l3 y3 z3 st3 hQ3
  subst l3 y3 z3
  obtain ⟨rfl, N3q, e3⟩ := hQ3
  have N3 := Fr.app N2 N3q
  refine ⟨T3, _, #[.val (.int p1), .val (.ref b1), .val (.int 1), .val (.ref w_DELETE), .val (.int 2), .val (.int 1), .val (.int 1)], X3, N3, fun target kt => ?_⟩
  show Steps p.tables e below (T0.setTop (mkF m 63 #[.val (.int p1), .val (.ref b1), .unset, .unset, .unset, .unset, .unset] [])) _
  refine XS.iloadN X0.here hx rfl (hb hby at_63) rfl ?_
  show Steps p.tables e below (T0.setTop (mkF m 64 #[.val (.int p1), .val (.ref b1), .unset, .unset, .unset, .unset, .unset] [(.int p1)])) _
  refine X0.ldcInt hx hown (mvT hZ (hw _ (List.mem_of_getElem? (i := 22) rfl))) (g := (mkF m 64 #[.val (.int p1), .val (.ref b1), .unset, .unset, .unset, .unset, .unset] [(.int p1)])) rfl (hb hby at_64) _ ?_
  show Steps p.tables e below (T0.setTop (mkF m 66 #[.val (.int p1), .val (.ref b1), .unset, .unset, .unset, .unset, .unset] [(.int 2147483647), (.int p1)])) _
  refine XS.iand X0.here hx rfl (hb hby at_66) rfl ?_
  show Steps p.tables e below (T0.setTop (mkF m 67 #[.val (.int p1), .val (.ref b1), .unset, .unset, .unset, .unset, .unset] [(.int (p1 &&& (2147483647 : Int32)))])) _
  refine XS.bipush X0.here hx rfl (hb hby at_67) ?_
  show Steps p.tables e below (T0.setTop (mkF m 69 #[.val (.int p1), .val (.ref b1), .unset, .unset, .unset, .unset, .unset] [(.int 9), (.int (p1 &&& (2147483647 : Int32)))])) _
  refine iremM X0 hx rfl (hb hby at_69) rfl (by decide) ?_
  show Steps p.tables e below (T0.setTop (mkF m 70 #[.val (.int p1), .val (.ref b1), .unset, .unset, .unset, .unset, .unset] [(.int ((p1 &&& (2147483647 : Int32)) % (9 : Int32)))])) _
  rw [hk]
  show Steps p.tables e below (T0.setTop (mkF m 70 #[.val (.int p1), .val (.ref b1), .unset, .unset, .unset, .unset, .unset] [(.int 1)])) _
  refine XS.istoreN X0.here hx rfl (hb hby at_70) rfl (l' := #[.val (.int p1), .val (.ref b1), .val (.int 1), .unset, .unset, .unset, .unset]) rfl ?_
  show Steps p.tables e below (T0.setTop (mkF m 71 #[.val (.int p1), .val (.ref b1), .val (.int 1), .unset, .unset, .unset, .unset] [])) _
  refine XS.aloadN X0.here hx rfl (hb hby at_71) rfl rfl ?_
  show Steps p.tables e below (T0.setTop (mkF m 72 #[.val (.int p1), .val (.ref b1), .val (.int 1), .unset, .unset, .unset, .unset] [(.ref b1)])) _
  refine XS.iloadN X0.here hx rfl (hb hby at_72) rfl ?_
  show Steps p.tables e below (T0.setTop (mkF m 73 #[.val (.int p1), .val (.ref b1), .val (.int 1), .unset, .unset, .unset, .unset] [(.int 1), (.ref b1)])) _
  refine own_ldR X0 hx hZ e0 V_b1 (j := (1 : Int32)) ⟨by decide, by decide⟩ rfl (g := (mkF m 73 #[.val (.int p1), .val (.ref b1), .val (.int 1), .unset, .unset, .unset, .unset] [(.int 1), (.ref b1)])) rfl rfl (hb hby at_73) _ ?_
  show Steps p.tables e below (T0.setTop (mkF m 74 #[.val (.int p1), .val (.ref b1), .val (.int 1), .unset, .unset, .unset, .unset] [(.ref w_DELETE)])) _
  refine XS.astoreN X0.here hx rfl (hb hby at_74) rfl rfl (l' := #[.val (.int p1), .val (.ref b1), .val (.int 1), .val (.ref w_DELETE), .unset, .unset, .unset]) rfl ?_
  show Steps p.tables e below (T0.setTop (mkF m 75 #[.val (.int p1), .val (.ref b1), .val (.int 1), .val (.ref w_DELETE), .unset, .unset, .unset] [])) _
  refine XS.aloadN X0.here hx rfl (hb hby at_75) rfl rfl ?_
  show Steps p.tables e below (T0.setTop (mkF m 76 #[.val (.int p1), .val (.ref b1), .val (.int 1), .val (.ref w_DELETE), .unset, .unset, .unset] [(.ref w_DELETE)])) _
  refine st1.trans ?_
  show Steps p.tables e below (T1.setTop (mkF m 79 #[.val (.int p1), .val (.ref b1), .val (.int 1), .val (.ref w_DELETE), .unset, .unset, .unset] [(.int 2)])) _
  refine XS.istore X1.here hx rfl (hb hby at_79) rfl (l' := #[.val (.int p1), .val (.ref b1), .val (.int 1), .val (.ref w_DELETE), .val (.int 2), .unset, .unset]) rfl ?_
  show Steps p.tables e below (T1.setTop (mkF m 81 #[.val (.int p1), .val (.ref b1), .val (.int 1), .val (.ref w_DELETE), .val (.int 2), .unset, .unset] [])) _
  refine XS.iload X1.here hx rfl (hb hby at_81) rfl ?_
  show Steps p.tables e below (T1.setTop (mkF m 83 #[.val (.int p1), .val (.ref b1), .val (.int 1), .val (.ref w_DELETE), .val (.int 2), .unset, .unset] [(.int 2)])) _
  refine XS.iconst X1.here hx rfl (hb hby at_83) ?_
  show Steps p.tables e below (T1.setTop (mkF m 84 #[.val (.int p1), .val (.ref b1), .val (.int 1), .val (.ref w_DELETE), .val (.int 2), .unset, .unset] [(.int 1), (.int 2)])) _
  refine XS.icmpNo X1.here hx rfl (hb hby at_84) rfl (feq (by decide : ¬ ((2 : Int32) = (1 : Int32)))).1 ?_
  show Steps p.tables e below (T1.setTop (mkF m 87 #[.val (.int p1), .val (.ref b1), .val (.int 1), .val (.ref w_DELETE), .val (.int 2), .unset, .unset] [])) _
  refine XS.iload X1.here hx rfl (hb hby at_87) rfl ?_
  show Steps p.tables e below (T1.setTop (mkF m 89 #[.val (.int p1), .val (.ref b1), .val (.int 1), .val (.ref w_DELETE), .val (.int 2), .unset, .unset] [(.int 2)])) _
  refine XS.iconst X1.here hx rfl (hb hby at_89) ?_
  show Steps p.tables e below (T1.setTop (mkF m 90 #[.val (.int p1), .val (.ref b1), .val (.int 1), .val (.ref w_DELETE), .val (.int 2), .unset, .unset] [(.int 2), (.int 2)])) _
  refine XS.icmpYes X1.here hx rfl (pc0 := 90) (pc' := 106) rfl (hb hby at_90) rfl (teq (by decide : (2 : Int32) = (2 : Int32))).1 (by decide) (by decide) ?_
  show Steps p.tables e below (T1.setTop (mkF m 106 #[.val (.int p1), .val (.ref b1), .val (.int 1), .val (.ref w_DELETE), .val (.int 2), .unset, .unset] [])) _
  refine XS.iconst X1.here hx rfl (hb hby at_106) ?_
  show Steps p.tables e below (T1.setTop (mkF m 107 #[.val (.int p1), .val (.ref b1), .val (.int 1), .val (.ref w_DELETE), .val (.int 2), .unset, .unset] [(.int 1)])) _
  refine XS.goto X1.here hx rfl (pc0 := 107) (pc' := 111) rfl (hb hby at_107) (by decide) (by decide) ?_
  show Steps p.tables e below (T1.setTop (mkF m 111 #[.val (.int p1), .val (.ref b1), .val (.int 1), .val (.ref w_DELETE), .val (.int 2), .unset, .unset] [(.int 1)])) _
  refine XS.istore X1.here hx rfl (hb hby at_111) rfl (l' := #[.val (.int p1), .val (.ref b1), .val (.int 1), .val (.ref w_DELETE), .val (.int 2), .val (.int 1), .unset]) rfl ?_
  show Steps p.tables e below (T1.setTop (mkF m 113 #[.val (.int p1), .val (.ref b1), .val (.int 1), .val (.ref w_DELETE), .val (.int 2), .val (.int 1), .unset] [])) _
  refine XS.aloadN X1.here hx rfl (hb hby at_113) rfl rfl ?_
  show Steps p.tables e below (T1.setTop (mkF m 114 #[.val (.int p1), .val (.ref b1), .val (.int 1), .val (.ref w_DELETE), .val (.int 2), .val (.int 1), .unset] [(.ref w_DELETE)])) _
  refine st2.trans ?_
  show Steps p.tables e below (T2.setTop (mkF m 117 #[.val (.int p1), .val (.ref b1), .val (.int 1), .val (.ref w_DELETE), .val (.int 2), .val (.int 1), .unset] [(.int 1)])) _
  refine XS.istore X2.here hx rfl (hb hby at_117) rfl (l' := #[.val (.int p1), .val (.ref b1), .val (.int 1), .val (.ref w_DELETE), .val (.int 2), .val (.int 1), .val (.int 1)]) rfl ?_
  show Steps p.tables e below (T2.setTop (mkF m 119 #[.val (.int p1), .val (.ref b1), .val (.int 1), .val (.ref w_DELETE), .val (.int 2), .val (.int 1), .val (.int 1)] [])) _
  refine XS.iload X2.here hx rfl (hb hby at_119) rfl ?_
  show Steps p.tables e below (T2.setTop (mkF m 121 #[.val (.int p1), .val (.ref b1), .val (.int 1), .val (.ref w_DELETE), .val (.int 2), .val (.int 1), .val (.int 1)] [(.int 1)])) _
  refine XS.iload X2.here hx rfl (hb hby at_121) rfl ?_
  show Steps p.tables e below (T2.setTop (mkF m 123 #[.val (.int p1), .val (.ref b1), .val (.int 1), .val (.ref w_DELETE), .val (.int 2), .val (.int 1), .val (.int 1)] [(.int 1), (.int 1)])) _
  refine XS.icmpYes X2.here hx rfl (pc0 := 123) (pc' := 128) rfl (hb hby at_123) rfl (teq (by decide : (1 : Int32) = (1 : Int32))).1 (by decide) (by decide) ?_
  show Steps p.tables e below (T2.setTop (mkF m 128 #[.val (.int p1), .val (.ref b1), .val (.int 1), .val (.ref w_DELETE), .val (.int 2), .val (.int 1), .val (.int 1)] [])) _
  refine XS.iload X2.here hx rfl (hb hby at_128) rfl ?_
  show Steps p.tables e below (T2.setTop (mkF m 130 #[.val (.int p1), .val (.ref b1), .val (.int 1), .val (.ref w_DELETE), .val (.int 2), .val (.int 1), .val (.int 1)] [(.int 1)])) _
  refine XS.ifNo X2.here hx rfl (hb hby at_130) rfl ((if0 _ _).trans (feq (by decide : ¬ ((1 : Int32) = (0 : Int32)))).1) ?_
  show Steps p.tables e below (T2.setTop (mkF m 133 #[.val (.int p1), .val (.ref b1), .val (.int 1), .val (.ref w_DELETE), .val (.int 2), .val (.int 1), .val (.int 1)] [])) _
  refine XS.aloadN X2.here hx rfl (hb hby at_133) rfl rfl ?_
  show Steps p.tables e below (T2.setTop (mkF m 134 #[.val (.int p1), .val (.ref b1), .val (.int 1), .val (.ref w_DELETE), .val (.int 2), .val (.int 1), .val (.int 1)] [(.ref w_DELETE)])) _
  refine st3.trans ?_
  show Steps p.tables e below (T3.setTop (mkF m 137 #[.val (.int p1), .val (.ref b1), .val (.int 1), .val (.ref w_DELETE), .val (.int 2), .val (.int 1), .val (.int 1)] [(.int 0)])) _
  refine XS.ifYes X3.here hx rfl (pc0 := 137) (pc' := 142) rfl (hb hby at_137) rfl ((if0 _ _).trans (teq (by decide : (0 : Int32) = (0 : Int32))).1) (by decide) (by decide) ?_
  show Steps p.tables e below (T3.setTop (mkF m 142 #[.val (.int p1), .val (.ref b1), .val (.int 1), .val (.ref w_DELETE), .val (.int 2), .val (.int 1), .val (.int 1)] [])) _
  refine XS.iconst X3.here hx rfl (hb hby at_142) ?_
  show Steps p.tables e below (T3.setTop (mkF m 143 #[.val (.int p1), .val (.ref b1), .val (.int 1), .val (.ref w_DELETE), .val (.int 2), .val (.int 1), .val (.int 1)] [(.int 1)])) _
  exact kt
def Q1_w_SET_DATA (Z : State) (w_SET_DATA : Addr) (h0 : Heap) (n0 : Nat) (v : Option Value) (h : Heap) (L : List Loc) : Prop := v = some (.int 5) ∧ Fr n0 L ∧ h = h0
set_option maxRecDepth 65536 in
set_option maxHeartbeats 40000000 in
theorem rm1_w_SET_DATA (l : Launch) (Z : State) (a0 : Array Value) (hw : ∀ d ∈ tables_1, d.before a0 Z = true) (ws : List Jvm.Cond) (w_SET_DATA : Addr) (h0 : Heap) (n0 : Nat) (Z0 : n0 ≤ h0.size) (F_code_w_SET_DATA : Fld Z h0 w_SET_DATA "com/example/epochcast/epochcast/server/Txn$Type" "code" "I" (.int 5)) :
    MetFree l (⟨"com/example/epochcast/epochcast/server/Txn$Type", "code", "()I"⟩ : MethodName) (head1 (Jvm.Cond.code (⟨"com/example/epochcast/epochcast/server/Txn$Type", "code", "()I"⟩ : MethodName) prog_202_method_4_code 1 (some .int) :: ws) ({ frames := 0, cells := 0, slots := 0, locals := 0 } : Room)) (fun a U => a = #[(.ref w_SET_DATA)] ∧ Z.Warmed39 U.vm ∧ U.heap = h0) (fun _ _ _ _ _ => True) (fun _ U o U' => ∃ v L, o = .returned v ∧ Q1_w_SET_DATA Z w_SET_DATA h0 n0 v U'.heap L ∧ FrameEnd U o U' L ({ frames := 0, cells := 0, slots := 0, locals := 0 } : Room).cells ({ frames := 0, cells := 0, slots := 0, locals := 0 } : Room).slots) := by
  refine MetFree.of_bodySF (plainFor_of_name pn_1) hisR ?_
  intro p e s m args below meth c s₁ Bd hml0 hP hK
  obtain ⟨rfl, hZ, hh⟩ := hP
  have hx := Bd.exec
  have hby := Bd.bytes
  have hml : c.maxLocals = 1 := hml0
  have hown : s.vm.findClass "com/example/epochcast/epochcast/server/Txn$Type" = some m.cls := findClass_of_methodNamed Bd.named
  have hnm := (name_of_methodNamed Bd.named Bd.method).1
  have X0 : Stand p l e ({ frames := 0, cells := 0, slots := 0, locals := 0 } : Room) s m #[(.ref w_SET_DATA)] below meth c s₁ [] 0 0 := Stand.of_body Bd
  have e0 : s₁.heap = h0 := by rw [← hh, Bd.state]; rfl
  have N0 := Fr.nil n0
  have pre0 : ∀ t, Steps p.tables e below (s₁.setTop (mkF m 0 #[.val (.ref w_SET_DATA)] [])) t → Steps p.tables e below (s₁.setTop (entryFrame m #[(.ref w_SET_DATA)] 1)) t := fun t k => castTop (by first | (simp [entryFrame, mkF, argsToLocals, Value.category]; done) | rfl) k
  obtain ⟨T1, X1, e1, st1⟩ := getF X0 hx hZ hown (host := "") (Or.inl (hw _ (List.mem_of_getElem? (i := 28) rfl))) Via.refl e0 F_code_w_SET_DATA (g := (mkF m 1 #[.val (.ref w_SET_DATA)] [(.ref w_SET_DATA)])) rfl rfl (hb hby d1_1)
  obtain ⟨fs, hr, hrun, hended, hW, hsame⟩ := X1.leave (v := some (.int 5)) (fun h => by rw [Bd.returns] at h; cases h)
  refine ⟨_, _, pre0 _ ?_, hrun, hended, _, _, rfl, ?_, ⟨_, rfl⟩, hW, hsame.mono (by decide) (by decide)⟩
  · show Steps p.tables e below (s₁.setTop (mkF m 0 #[.val (.ref w_SET_DATA)] [])) _
    refine XS.aloadN X0.here hx rfl (hb hby d1_0) rfl rfl ?_
    show Steps p.tables e below (s₁.setTop (mkF m 1 #[.val (.ref w_SET_DATA)] [(.ref w_SET_DATA)])) _
    refine st1 _ ?_
    show Steps p.tables e below (T1.setTop (mkF m 4 #[.val (.ref w_SET_DATA)] [(.int 5)])) _
    exact retI X1 hx Bd.returns (hb hby d1_4) hr
  · show Q1_w_SET_DATA Z w_SET_DATA h0 n0 _ T1.heap _
    rw [e1]
    exact ⟨rfl, N0, rfl⟩
def Q2_w_SET_DATA (Z : State) (w_SET_DATA : Addr) (w_CREATE : Addr) (w_DELETE : Addr) (h0 : Heap) (n0 : Nat) (v : Option Value) (h : Heap) (L : List Loc) : Prop := v = some (.int 1) ∧ Fr n0 L ∧ h = h0
set_option maxRecDepth 65536 in
set_option maxHeartbeats 40000000 in
theorem rm2_w_SET_DATA (l : Launch) (Z : State) (a0 : Array Value) (hw : ∀ d ∈ tables_1, d.before a0 Z = true) (ws : List Jvm.Cond) (w_SET_DATA : Addr) (w_CREATE : Addr) (w_DELETE : Addr) (h0 : Heap) (n0 : Nat) (Z0 : n0 ≤ h0.size) (S_CREATE : Sta Z h0 "com/example/epochcast/epochcast/server/Txn$Type" "CREATE" "Lcom/example/epochcast/epochcast/server/Txn$Type;" (.ref w_CREATE)) (n_w_CREATE_w_SET_DATA : ¬ (w_CREATE = w_SET_DATA)) (S_DELETE : Sta Z h0 "com/example/epochcast/epochcast/server/Txn$Type" "DELETE" "Lcom/example/epochcast/epochcast/server/Txn$Type;" (.ref w_DELETE)) (n_w_DELETE_w_SET_DATA : ¬ (w_DELETE = w_SET_DATA)) (S_SET_DATA : Sta Z h0 "com/example/epochcast/epochcast/server/Txn$Type" "SET_DATA" "Lcom/example/epochcast/epochcast/server/Txn$Type;" (.ref w_SET_DATA)) :
    MetFree l (⟨"com/example/epochcast/epochcast/server/Txn$Type", "isOperation", "()Z"⟩ : MethodName) (head1 (Jvm.Cond.code (⟨"com/example/epochcast/epochcast/server/Txn$Type", "isOperation", "()Z"⟩ : MethodName) prog_202_method_6_code 1 (some .boolean) :: ws) ({ frames := 0, cells := 0, slots := 0, locals := 0 } : Room)) (fun a U => a = #[(.ref w_SET_DATA)] ∧ Z.Warmed39 U.vm ∧ U.heap = h0) (fun _ _ _ _ _ => True) (fun _ U o U' => ∃ v L, o = .returned v ∧ Q2_w_SET_DATA Z w_SET_DATA w_CREATE w_DELETE h0 n0 v U'.heap L ∧ FrameEnd U o U' L ({ frames := 0, cells := 0, slots := 0, locals := 0 } : Room).cells ({ frames := 0, cells := 0, slots := 0, locals := 0 } : Room).slots) := by
  refine MetFree.of_bodySF (plainFor_of_name pn_2) hisR ?_
  intro p e s m args below meth c s₁ Bd hml0 hP hK
  obtain ⟨rfl, hZ, hh⟩ := hP
  have hx := Bd.exec
  have hby := Bd.bytes
  have hml : c.maxLocals = 1 := hml0
  have hown : s.vm.findClass "com/example/epochcast/epochcast/server/Txn$Type" = some m.cls := findClass_of_methodNamed Bd.named
  have hnm := (name_of_methodNamed Bd.named Bd.method).1
  have X0 : Stand p l e ({ frames := 0, cells := 0, slots := 0, locals := 0 } : Room) s m #[(.ref w_SET_DATA)] below meth c s₁ [] 0 0 := Stand.of_body Bd
  have e0 : s₁.heap = h0 := by rw [← hh, Bd.state]; rfl
  have N0 := Fr.nil n0
  have pre0 : ∀ t, Steps p.tables e below (s₁.setTop (mkF m 0 #[.val (.ref w_SET_DATA)] [])) t → Steps p.tables e below (s₁.setTop (entryFrame m #[(.ref w_SET_DATA)] 1)) t := fun t k => castTop (by first | (simp [entryFrame, mkF, argsToLocals, Value.category]; done) | rfl) k
  obtain ⟨T1, X1, e1, st1⟩ := getS2 X0 hx hZ hown (host := "") (Or.inl (hw _ (List.mem_of_getElem? (i := 35) rfl))) Via.refl e0 S_CREATE (g := (mkF m 1 #[.val (.ref w_SET_DATA)] [(.ref w_SET_DATA)])) rfl (hb hby d2_1)
  obtain ⟨T2, X2, e2, st2⟩ := getS2 X1 hx hZ hown (host := "") (Or.inl (hw _ (List.mem_of_getElem? (i := 44) rfl))) Via.refl e1 S_DELETE (g := (mkF m 8 #[.val (.ref w_SET_DATA)] [(.ref w_SET_DATA)])) rfl (hb hby d2_8)
  obtain ⟨T3, X3, e3, st3⟩ := getS2 X2 hx hZ hown (host := "") (Or.inl (hw _ (List.mem_of_getElem? (i := 45) rfl))) Via.refl e2 S_SET_DATA (g := (mkF m 15 #[.val (.ref w_SET_DATA)] [(.ref w_SET_DATA)])) rfl (hb hby d2_15)
  obtain ⟨fs, hr, hrun, hended, hW, hsame⟩ := X3.leave (v := some (.int 1)) (fun h => by rw [Bd.returns] at h; cases h)
  refine ⟨_, _, pre0 _ ?_, hrun, hended, _, _, rfl, ?_, ⟨_, rfl⟩, hW, hsame.mono (by decide) (by decide)⟩
  · show Steps p.tables e below (s₁.setTop (mkF m 0 #[.val (.ref w_SET_DATA)] [])) _
    refine XS.aloadN X0.here hx rfl (hb hby d2_0) rfl rfl ?_
    show Steps p.tables e below (s₁.setTop (mkF m 1 #[.val (.ref w_SET_DATA)] [(.ref w_SET_DATA)])) _
    refine st1 _ ?_
    show Steps p.tables e below (T1.setTop (mkF m 4 #[.val (.ref w_SET_DATA)] [(.ref w_CREATE), (.ref w_SET_DATA)])) _
    refine Jvm.RoadKit.acmp (g := (mkF m 4 #[.val (.ref w_SET_DATA)] [(.ref w_CREATE), (.ref w_SET_DATA)])) X1 hx rfl rfl rfl (pc0 := 4) (pc' := 7) (same := false) rfl (hb hby d2_4) rfl (decide_eq_false fun q => (Ne.symm n_w_CREATE_w_SET_DATA) (Value.ref.inj q)) (by decide) (by decide) ?_
    show Steps p.tables e below (T1.setTop (mkF m 7 #[.val (.ref w_SET_DATA)] [])) _
    refine XS.aloadN X1.here hx rfl (hb hby d2_7) rfl rfl ?_
    show Steps p.tables e below (T1.setTop (mkF m 8 #[.val (.ref w_SET_DATA)] [(.ref w_SET_DATA)])) _
    refine st2 _ ?_
    show Steps p.tables e below (T2.setTop (mkF m 11 #[.val (.ref w_SET_DATA)] [(.ref w_DELETE), (.ref w_SET_DATA)])) _
    refine Jvm.RoadKit.acmp (g := (mkF m 11 #[.val (.ref w_SET_DATA)] [(.ref w_DELETE), (.ref w_SET_DATA)])) X2 hx rfl rfl rfl (pc0 := 11) (pc' := 14) (same := false) rfl (hb hby d2_11) rfl (decide_eq_false fun q => (Ne.symm n_w_DELETE_w_SET_DATA) (Value.ref.inj q)) (by decide) (by decide) ?_
    show Steps p.tables e below (T2.setTop (mkF m 14 #[.val (.ref w_SET_DATA)] [])) _
    refine XS.aloadN X2.here hx rfl (hb hby d2_14) rfl rfl ?_
    show Steps p.tables e below (T2.setTop (mkF m 15 #[.val (.ref w_SET_DATA)] [(.ref w_SET_DATA)])) _
    refine st3 _ ?_
    show Steps p.tables e below (T3.setTop (mkF m 18 #[.val (.ref w_SET_DATA)] [(.ref w_SET_DATA), (.ref w_SET_DATA)])) _
    refine Jvm.RoadKit.acmp (g := (mkF m 18 #[.val (.ref w_SET_DATA)] [(.ref w_SET_DATA), (.ref w_SET_DATA)])) X3 hx rfl rfl rfl (pc0 := 18) (pc' := 28) (same := true) rfl (hb hby d2_18) rfl (decide_eq_true rfl) (by decide) (by decide) ?_
    show Steps p.tables e below (T3.setTop (mkF m 28 #[.val (.ref w_SET_DATA)] [])) _
    refine XS.iconst X3.here hx rfl (hb hby d2_28) ?_
    show Steps p.tables e below (T3.setTop (mkF m 29 #[.val (.ref w_SET_DATA)] [(.int 1)])) _
    refine XS.goto X3.here hx rfl (pc0 := 29) (pc' := 33) rfl (hb hby d2_29) (by decide) (by decide) ?_
    show Steps p.tables e below (T3.setTop (mkF m 33 #[.val (.ref w_SET_DATA)] [(.int 1)])) _
    exact retN X3 hx (t := .boolean) Bd.returns (by simp) (hb hby d2_33) hr
  · show Q2_w_SET_DATA Z w_SET_DATA w_CREATE w_DELETE h0 n0 _ T3.heap _
    rw [e3]
    exact ⟨rfl, N0, rfl⟩
def Q3_w_SET_DATA (Z : State) (w_SET_DATA : Addr) (w_CREATE_SESSION : Addr) (w_CLOSE_SESSION : Addr) (w_AUTH : Addr) (h0 : Heap) (n0 : Nat) (v : Option Value) (h : Heap) (L : List Loc) : Prop := v = some (.int 0) ∧ Fr n0 L ∧ h = h0
set_option maxRecDepth 65536 in
set_option maxHeartbeats 40000000 in
theorem rm3_w_SET_DATA (l : Launch) (Z : State) (a0 : Array Value) (hw : ∀ d ∈ tables_1, d.before a0 Z = true) (ws : List Jvm.Cond) (w_SET_DATA : Addr) (w_CREATE_SESSION : Addr) (w_CLOSE_SESSION : Addr) (w_AUTH : Addr) (h0 : Heap) (n0 : Nat) (Z0 : n0 ≤ h0.size) (S_CREATE_SESSION : Sta Z h0 "com/example/epochcast/epochcast/server/Txn$Type" "CREATE_SESSION" "Lcom/example/epochcast/epochcast/server/Txn$Type;" (.ref w_CREATE_SESSION)) (n_w_CREATE_SESSION_w_SET_DATA : ¬ (w_CREATE_SESSION = w_SET_DATA)) (S_CLOSE_SESSION : Sta Z h0 "com/example/epochcast/epochcast/server/Txn$Type" "CLOSE_SESSION" "Lcom/example/epochcast/epochcast/server/Txn$Type;" (.ref w_CLOSE_SESSION)) (n_w_CLOSE_SESSION_w_SET_DATA : ¬ (w_CLOSE_SESSION = w_SET_DATA)) (S_AUTH : Sta Z h0 "com/example/epochcast/epochcast/server/Txn$Type" "AUTH" "Lcom/example/epochcast/epochcast/server/Txn$Type;" (.ref w_AUTH)) (n_w_AUTH_w_SET_DATA : ¬ (w_AUTH = w_SET_DATA)) :
    MetFree l (⟨"com/example/epochcast/epochcast/server/Txn$Type", "isSession", "()Z"⟩ : MethodName) (head1 (Jvm.Cond.code (⟨"com/example/epochcast/epochcast/server/Txn$Type", "isSession", "()Z"⟩ : MethodName) prog_202_method_5_code 1 (some .boolean) :: ws) ({ frames := 0, cells := 0, slots := 0, locals := 0 } : Room)) (fun a U => a = #[(.ref w_SET_DATA)] ∧ Z.Warmed39 U.vm ∧ U.heap = h0) (fun _ _ _ _ _ => True) (fun _ U o U' => ∃ v L, o = .returned v ∧ Q3_w_SET_DATA Z w_SET_DATA w_CREATE_SESSION w_CLOSE_SESSION w_AUTH h0 n0 v U'.heap L ∧ FrameEnd U o U' L ({ frames := 0, cells := 0, slots := 0, locals := 0 } : Room).cells ({ frames := 0, cells := 0, slots := 0, locals := 0 } : Room).slots) := by
  refine MetFree.of_bodySF (plainFor_of_name pn_3) hisR ?_
  intro p e s m args below meth c s₁ Bd hml0 hP hK
  obtain ⟨rfl, hZ, hh⟩ := hP
  have hx := Bd.exec
  have hby := Bd.bytes
  have hml : c.maxLocals = 1 := hml0
  have hown : s.vm.findClass "com/example/epochcast/epochcast/server/Txn$Type" = some m.cls := findClass_of_methodNamed Bd.named
  have hnm := (name_of_methodNamed Bd.named Bd.method).1
  have X0 : Stand p l e ({ frames := 0, cells := 0, slots := 0, locals := 0 } : Room) s m #[(.ref w_SET_DATA)] below meth c s₁ [] 0 0 := Stand.of_body Bd
  have e0 : s₁.heap = h0 := by rw [← hh, Bd.state]; rfl
  have N0 := Fr.nil n0
  have pre0 : ∀ t, Steps p.tables e below (s₁.setTop (mkF m 0 #[.val (.ref w_SET_DATA)] [])) t → Steps p.tables e below (s₁.setTop (entryFrame m #[(.ref w_SET_DATA)] 1)) t := fun t k => castTop (by first | (simp [entryFrame, mkF, argsToLocals, Value.category]; done) | rfl) k
  obtain ⟨T1, X1, e1, st1⟩ := getS2 X0 hx hZ hown (host := "") (Or.inl (hw _ (List.mem_of_getElem? (i := 41) rfl))) Via.refl e0 S_CREATE_SESSION (g := (mkF m 1 #[.val (.ref w_SET_DATA)] [(.ref w_SET_DATA)])) rfl (hb hby d3_1)
  obtain ⟨T2, X2, e2, st2⟩ := getS2 X1 hx hZ hown (host := "") (Or.inl (hw _ (List.mem_of_getElem? (i := 42) rfl))) Via.refl e1 S_CLOSE_SESSION (g := (mkF m 8 #[.val (.ref w_SET_DATA)] [(.ref w_SET_DATA)])) rfl (hb hby d3_8)
  obtain ⟨T3, X3, e3, st3⟩ := getS2 X2 hx hZ hown (host := "") (Or.inl (hw _ (List.mem_of_getElem? (i := 43) rfl))) Via.refl e2 S_AUTH (g := (mkF m 15 #[.val (.ref w_SET_DATA)] [(.ref w_SET_DATA)])) rfl (hb hby d3_15)
  obtain ⟨fs, hr, hrun, hended, hW, hsame⟩ := X3.leave (v := some (.int 0)) (fun h => by rw [Bd.returns] at h; cases h)
  refine ⟨_, _, pre0 _ ?_, hrun, hended, _, _, rfl, ?_, ⟨_, rfl⟩, hW, hsame.mono (by decide) (by decide)⟩
  · show Steps p.tables e below (s₁.setTop (mkF m 0 #[.val (.ref w_SET_DATA)] [])) _
    refine XS.aloadN X0.here hx rfl (hb hby d3_0) rfl rfl ?_
    show Steps p.tables e below (s₁.setTop (mkF m 1 #[.val (.ref w_SET_DATA)] [(.ref w_SET_DATA)])) _
    refine st1 _ ?_
    show Steps p.tables e below (T1.setTop (mkF m 4 #[.val (.ref w_SET_DATA)] [(.ref w_CREATE_SESSION), (.ref w_SET_DATA)])) _
    refine Jvm.RoadKit.acmp (g := (mkF m 4 #[.val (.ref w_SET_DATA)] [(.ref w_CREATE_SESSION), (.ref w_SET_DATA)])) X1 hx rfl rfl rfl (pc0 := 4) (pc' := 7) (same := false) rfl (hb hby d3_4) rfl (decide_eq_false fun q => (Ne.symm n_w_CREATE_SESSION_w_SET_DATA) (Value.ref.inj q)) (by decide) (by decide) ?_
    show Steps p.tables e below (T1.setTop (mkF m 7 #[.val (.ref w_SET_DATA)] [])) _
    refine XS.aloadN X1.here hx rfl (hb hby d3_7) rfl rfl ?_
    show Steps p.tables e below (T1.setTop (mkF m 8 #[.val (.ref w_SET_DATA)] [(.ref w_SET_DATA)])) _
    refine st2 _ ?_
    show Steps p.tables e below (T2.setTop (mkF m 11 #[.val (.ref w_SET_DATA)] [(.ref w_CLOSE_SESSION), (.ref w_SET_DATA)])) _
    refine Jvm.RoadKit.acmp (g := (mkF m 11 #[.val (.ref w_SET_DATA)] [(.ref w_CLOSE_SESSION), (.ref w_SET_DATA)])) X2 hx rfl rfl rfl (pc0 := 11) (pc' := 14) (same := false) rfl (hb hby d3_11) rfl (decide_eq_false fun q => (Ne.symm n_w_CLOSE_SESSION_w_SET_DATA) (Value.ref.inj q)) (by decide) (by decide) ?_
    show Steps p.tables e below (T2.setTop (mkF m 14 #[.val (.ref w_SET_DATA)] [])) _
    refine XS.aloadN X2.here hx rfl (hb hby d3_14) rfl rfl ?_
    show Steps p.tables e below (T2.setTop (mkF m 15 #[.val (.ref w_SET_DATA)] [(.ref w_SET_DATA)])) _
    refine st3 _ ?_
    show Steps p.tables e below (T3.setTop (mkF m 18 #[.val (.ref w_SET_DATA)] [(.ref w_AUTH), (.ref w_SET_DATA)])) _
    refine Jvm.RoadKit.acmp (g := (mkF m 18 #[.val (.ref w_SET_DATA)] [(.ref w_AUTH), (.ref w_SET_DATA)])) X3 hx rfl rfl rfl (pc0 := 18) (pc' := 25) (same := false) rfl (hb hby d3_18) rfl (decide_eq_false fun q => (Ne.symm n_w_AUTH_w_SET_DATA) (Value.ref.inj q)) (by decide) (by decide) ?_
    show Steps p.tables e below (T3.setTop (mkF m 25 #[.val (.ref w_SET_DATA)] [])) _
    refine XS.iconst X3.here hx rfl (hb hby d3_25) ?_
    show Steps p.tables e below (T3.setTop (mkF m 26 #[.val (.ref w_SET_DATA)] [(.int 0)])) _
    exact retN X3 hx (t := .boolean) Bd.returns (by simp) (hb hby d3_26) hr
  · show Q3_w_SET_DATA Z w_SET_DATA w_CREATE_SESSION w_CLOSE_SESSION w_AUTH h0 n0 _ T3.heap _
    rw [e3]
    exact ⟨rfl, N0, rfl⟩
set_option maxRecDepth 65536 in
set_option maxHeartbeats 40000000 in
theorem pc0_k2 {p : Program} {l : Launch} {e : Env} {s : State} {m : MethodId} {args : Array Value} {below : List Frame} {meth : Method} {c : Code} {T0 : State} {locs : List Loc} {Z : State} {a0 : Array Value} {h0 : Heap} {n0 : Nat} (p1 : Int32) (b1 : Addr) (k1 : ClassId) (w_CREATE : Addr) (w_DELETE : Addr) (w_SET_DATA : Addr) (w_SET_ACL : Addr) (w_CHECK : Addr) (w_MULTI : Addr) (w_CREATE_SESSION : Addr) (w_CLOSE_SESSION : Addr) (w_AUTH : Addr)
    (X0 : Stand p l e room_1 s m args below meth c T0 locs 1 9) (hx : p.tables.exec = Jvm.exec) (hZ : Z.Warmed39 s.vm) (hw : ∀ d ∈ tables_1, d.before a0 Z = true) (hby : c.code = code) (hml : c.maxLocals = 7) (hown : s.vm.findClass "com/example/epochcast/epochcast/server/TypeIsOperationPinLaw" = some m.cls) (e0 : T0.heap = h0) (Z0 : n0 ≤ h0.size) (N0 : Fr n0 locs) (hk : ((p1 &&& (2147483647 : Int32)) % (9 : Int32)) = (2 : Int32)) (V_b1 : Arv Z h0 b1 k1 (.object "com/example/epochcast/epochcast/server/Txn$Type") (9 : Int32) [(.ref w_CREATE), (.ref w_DELETE), (.ref w_SET_DATA), (.ref w_SET_ACL), (.ref w_CHECK), (.ref w_MULTI), (.ref w_CREATE_SESSION), (.ref w_CLOSE_SESSION), (.ref w_AUTH)] .null) (F_code_w_SET_DATA : Fld Z h0 w_SET_DATA "com/example/epochcast/epochcast/server/Txn$Type" "code" "I" (.int 5)) (E_w_SET_DATA : Exa Z h0 w_SET_DATA "com/example/epochcast/epochcast/server/Txn$Type") (S_CREATE : Sta Z h0 "com/example/epochcast/epochcast/server/Txn$Type" "CREATE" "Lcom/example/epochcast/epochcast/server/Txn$Type;" (.ref w_CREATE)) (n_w_CREATE_w_SET_DATA : ¬ (w_CREATE = w_SET_DATA)) (S_DELETE : Sta Z h0 "com/example/epochcast/epochcast/server/Txn$Type" "DELETE" "Lcom/example/epochcast/epochcast/server/Txn$Type;" (.ref w_DELETE)) (n_w_DELETE_w_SET_DATA : ¬ (w_DELETE = w_SET_DATA)) (S_SET_DATA : Sta Z h0 "com/example/epochcast/epochcast/server/Txn$Type" "SET_DATA" "Lcom/example/epochcast/epochcast/server/Txn$Type;" (.ref w_SET_DATA)) (S_CREATE_SESSION : Sta Z h0 "com/example/epochcast/epochcast/server/Txn$Type" "CREATE_SESSION" "Lcom/example/epochcast/epochcast/server/Txn$Type;" (.ref w_CREATE_SESSION)) (n_w_CREATE_SESSION_w_SET_DATA : ¬ (w_CREATE_SESSION = w_SET_DATA)) (S_CLOSE_SESSION : Sta Z h0 "com/example/epochcast/epochcast/server/Txn$Type" "CLOSE_SESSION" "Lcom/example/epochcast/epochcast/server/Txn$Type;" (.ref w_CLOSE_SESSION)) (n_w_CLOSE_SESSION_w_SET_DATA : ¬ (w_CLOSE_SESSION = w_SET_DATA)) (S_AUTH : Sta Z h0 "com/example/epochcast/epochcast/server/Txn$Type" "AUTH" "Lcom/example/epochcast/epochcast/server/Txn$Type;" (.ref w_AUTH)) (n_w_AUTH_w_SET_DATA : ¬ (w_AUTH = w_SET_DATA)) :
    ∃ (T' : State) (L' : List Loc) (Ls : Array Slot), Stand p l e room_1 s m args below meth c T' L' 1 9 ∧ Fr n0 L' ∧ ∀ target, Steps p.tables e below (T'.setTop (mkF m 143 Ls [(.int 1)])) target → Steps p.tables e below (T0.setTop (mkF m 63 #[.val (.int p1), .val (.ref b1), .unset, .unset, .unset, .unset, .unset] [])) target := by
  obtain ⟨cq1, kq1, q1a, q1b, q1c⟩ := isOf hZ e0 E_w_SET_DATA
  obtain ⟨_, _, ⟨T1, L1, k1, n1⟩, -, X1, ⟨Lc1, hQ1, l1, y1, z1⟩, st1⟩ := X0.virtualBack hx (y := (⟨"com/example/epochcast/epochcast/server/Txn$Type", "code", "()I"⟩ : MethodName)) (z := (⟨"com/example/epochcast/epochcast/server/Txn$Type", "code", "()I"⟩ : MethodName)) hown (mvT hZ (hw _ (List.mem_of_getElem? (i := 23) rfl))) (mvT hZ (hw _ (List.mem_of_getElem? (i := 24) rfl))) (notFace_of_selects (args := #[]) (mvT hZ (hw _ (List.mem_of_getElem? (i := 26) rfl)))) (mvT hZ (hw _ (List.mem_of_getElem? (i := 26) rfl))) (mvT hZ (hw _ (List.mem_of_getElem? (i := 25) rfl))) (by decide) (backOf (W := 0) (rm1_w_SET_DATA l Z a0 hw [] w_SET_DATA h0 n0 Z0 F_code_w_SET_DATA) hZ (hw _ (List.mem_of_getElem? (i := 27) rfl)) (hw _ (List.mem_of_getElem? (i := 3) rfl)) (by decide) (by decide)) q1a q1c (g := (mkF m 76 #[.val (.int p1), .val (.ref b1), .val (.int 2), .val (.ref w_SET_DATA), .unset, .unset, .unset] [(.ref w_SET_DATA)])) rfl (by rw [hml]; rfl) (Steps.refl _) (argsL := []) (rest := []) (lenOf pd___I rfl) rfl (by show 2 * 0 + _ ≤ _; exact Nat.le_of_eq rfl) (hb hby at_76) (fun _ _ => ⟨rfl, e0, (by decide : 1 + 0 ≤ _), (by decide : 9 + 0 ≤ _)⟩)
  dsimp only [Pt.U, Pt.locs, Pt.cells, Pt.slots] at X1 l1 y1 z1 st1 hQ1
  subst l1 y1 z1
  obtain ⟨rfl, N1q, e1⟩ := hQ1
  have N1 := Fr.app N0 N1q
  obtain ⟨cq2, kq2, q2a, q2b, q2c⟩ := isOf hZ e1 E_w_SET_DATA
  obtain ⟨_, _, ⟨T2, L2, k2, n2⟩, -, X2, ⟨Lc2, hQ2, l2, y2, z2⟩, st2⟩ := X1.virtualBack hx (y := (⟨"com/example/epochcast/epochcast/server/Txn$Type", "isOperation", "()Z"⟩ : MethodName)) (z := (⟨"com/example/epochcast/epochcast/server/Txn$Type", "isOperation", "()Z"⟩ : MethodName)) hown (mvT hZ (hw _ (List.mem_of_getElem? (i := 30) rfl))) (mvT hZ (hw _ (List.mem_of_getElem? (i := 31) rfl))) (notFace_of_selects (args := #[]) (mvT hZ (hw _ (List.mem_of_getElem? (i := 33) rfl)))) (mvT hZ (hw _ (List.mem_of_getElem? (i := 33) rfl))) (mvT hZ (hw _ (List.mem_of_getElem? (i := 32) rfl))) (by decide) (backOf (W := 0) (rm2_w_SET_DATA l Z a0 hw [] w_SET_DATA w_CREATE w_DELETE h0 n0 Z0 S_CREATE n_w_CREATE_w_SET_DATA S_DELETE n_w_DELETE_w_SET_DATA S_SET_DATA) hZ (hw _ (List.mem_of_getElem? (i := 34) rfl)) (hw _ (List.mem_of_getElem? (i := 3) rfl)) (by decide) (by decide)) q2a q2c (g := (mkF m 114 #[.val (.int p1), .val (.ref b1), .val (.int 2), .val (.ref w_SET_DATA), .val (.int 5), .val (.int 1), .unset] [(.ref w_SET_DATA)])) rfl (by rw [hml]; rfl) (Steps.refl _) (argsL := []) (rest := []) (lenOf pd___Z rfl) rfl (by show 2 * 0 + _ ≤ _; exact Nat.le_of_eq rfl) (hb hby at_114) (fun _ _ => ⟨rfl, e1, (by decide : 1 + 0 ≤ _), (by decide : 9 + 0 ≤ _)⟩)
  dsimp only [Pt.U, Pt.locs, Pt.cells, Pt.slots] at X2 l2 y2 z2 st2 hQ2
  subst l2 y2 z2
  obtain ⟨rfl, N2q, e2⟩ := hQ2
  have N2 := Fr.app N1 N2q
  obtain ⟨cq3, kq3, q3a, q3b, q3c⟩ := isOf hZ e2 E_w_SET_DATA
  obtain ⟨_, _, ⟨T3, L3, k3, n3⟩, -, X3, ⟨Lc3, hQ3, l3, y3, z3⟩, st3⟩ := X2.virtualBack hx (y := (⟨"com/example/epochcast/epochcast/server/Txn$Type", "isSession", "()Z"⟩ : MethodName)) (z := (⟨"com/example/epochcast/epochcast/server/Txn$Type", "isSession", "()Z"⟩ : MethodName)) hown (mvT hZ (hw _ (List.mem_of_getElem? (i := 36) rfl))) (mvT hZ (hw _ (List.mem_of_getElem? (i := 37) rfl))) (notFace_of_selects (args := #[]) (mvT hZ (hw _ (List.mem_of_getElem? (i := 39) rfl)))) (mvT hZ (hw _ (List.mem_of_getElem? (i := 39) rfl))) (mvT hZ (hw _ (List.mem_of_getElem? (i := 38) rfl))) (by decide) (backOf (W := 0) (rm3_w_SET_DATA l Z a0 hw [] w_SET_DATA w_CREATE_SESSION w_CLOSE_SESSION w_AUTH h0 n0 Z0 S_CREATE_SESSION n_w_CREATE_SESSION_w_SET_DATA S_CLOSE_SESSION n_w_CLOSE_SESSION_w_SET_DATA S_AUTH n_w_AUTH_w_SET_DATA) hZ (hw _ (List.mem_of_getElem? (i := 40) rfl)) (hw _ (List.mem_of_getElem? (i := 3) rfl)) (by decide) (by decide)) q3a q3c (g := (mkF m 134 #[.val (.int p1), .val (.ref b1), .val (.int 2), .val (.ref w_SET_DATA), .val (.int 5), .val (.int 1), .val (.int 1)] [(.ref w_SET_DATA)])) rfl (by rw [hml]; rfl) (Steps.refl _) (argsL := []) (rest := []) (lenOf pd___Z rfl) rfl (by show 2 * 0 + _ ≤ _; exact Nat.le_of_eq rfl) (hb hby at_134) (fun _ _ => ⟨rfl, e2, (by decide : 1 + 0 ≤ _), (by decide : 9 + 0 ≤ _)⟩)
  dsimp only [Pt.U, Pt.locs, Pt.cells, Pt.slots] at X3 l3 y3 z3 st3 hQ3
  subst l3 y3 z3
  obtain ⟨rfl, N3q, e3⟩ := hQ3
  have N3 := Fr.app N2 N3q
  refine ⟨T3, _, #[.val (.int p1), .val (.ref b1), .val (.int 2), .val (.ref w_SET_DATA), .val (.int 5), .val (.int 1), .val (.int 1)], X3, N3, fun target kt => ?_⟩
  show Steps p.tables e below (T0.setTop (mkF m 63 #[.val (.int p1), .val (.ref b1), .unset, .unset, .unset, .unset, .unset] [])) _
  refine XS.iloadN X0.here hx rfl (hb hby at_63) rfl ?_
  show Steps p.tables e below (T0.setTop (mkF m 64 #[.val (.int p1), .val (.ref b1), .unset, .unset, .unset, .unset, .unset] [(.int p1)])) _
  refine X0.ldcInt hx hown (mvT hZ (hw _ (List.mem_of_getElem? (i := 22) rfl))) (g := (mkF m 64 #[.val (.int p1), .val (.ref b1), .unset, .unset, .unset, .unset, .unset] [(.int p1)])) rfl (hb hby at_64) _ ?_
  show Steps p.tables e below (T0.setTop (mkF m 66 #[.val (.int p1), .val (.ref b1), .unset, .unset, .unset, .unset, .unset] [(.int 2147483647), (.int p1)])) _
  refine XS.iand X0.here hx rfl (hb hby at_66) rfl ?_
  show Steps p.tables e below (T0.setTop (mkF m 67 #[.val (.int p1), .val (.ref b1), .unset, .unset, .unset, .unset, .unset] [(.int (p1 &&& (2147483647 : Int32)))])) _
  refine XS.bipush X0.here hx rfl (hb hby at_67) ?_
  show Steps p.tables e below (T0.setTop (mkF m 69 #[.val (.int p1), .val (.ref b1), .unset, .unset, .unset, .unset, .unset] [(.int 9), (.int (p1 &&& (2147483647 : Int32)))])) _
  refine iremM X0 hx rfl (hb hby at_69) rfl (by decide) ?_
  show Steps p.tables e below (T0.setTop (mkF m 70 #[.val (.int p1), .val (.ref b1), .unset, .unset, .unset, .unset, .unset] [(.int ((p1 &&& (2147483647 : Int32)) % (9 : Int32)))])) _
  rw [hk]
  show Steps p.tables e below (T0.setTop (mkF m 70 #[.val (.int p1), .val (.ref b1), .unset, .unset, .unset, .unset, .unset] [(.int 2)])) _
  refine XS.istoreN X0.here hx rfl (hb hby at_70) rfl (l' := #[.val (.int p1), .val (.ref b1), .val (.int 2), .unset, .unset, .unset, .unset]) rfl ?_
  show Steps p.tables e below (T0.setTop (mkF m 71 #[.val (.int p1), .val (.ref b1), .val (.int 2), .unset, .unset, .unset, .unset] [])) _
  refine XS.aloadN X0.here hx rfl (hb hby at_71) rfl rfl ?_
  show Steps p.tables e below (T0.setTop (mkF m 72 #[.val (.int p1), .val (.ref b1), .val (.int 2), .unset, .unset, .unset, .unset] [(.ref b1)])) _
  refine XS.iloadN X0.here hx rfl (hb hby at_72) rfl ?_
  show Steps p.tables e below (T0.setTop (mkF m 73 #[.val (.int p1), .val (.ref b1), .val (.int 2), .unset, .unset, .unset, .unset] [(.int 2), (.ref b1)])) _
  refine own_ldR X0 hx hZ e0 V_b1 (j := (2 : Int32)) ⟨by decide, by decide⟩ rfl (g := (mkF m 73 #[.val (.int p1), .val (.ref b1), .val (.int 2), .unset, .unset, .unset, .unset] [(.int 2), (.ref b1)])) rfl rfl (hb hby at_73) _ ?_
  show Steps p.tables e below (T0.setTop (mkF m 74 #[.val (.int p1), .val (.ref b1), .val (.int 2), .unset, .unset, .unset, .unset] [(.ref w_SET_DATA)])) _
  refine XS.astoreN X0.here hx rfl (hb hby at_74) rfl rfl (l' := #[.val (.int p1), .val (.ref b1), .val (.int 2), .val (.ref w_SET_DATA), .unset, .unset, .unset]) rfl ?_
  show Steps p.tables e below (T0.setTop (mkF m 75 #[.val (.int p1), .val (.ref b1), .val (.int 2), .val (.ref w_SET_DATA), .unset, .unset, .unset] [])) _
  refine XS.aloadN X0.here hx rfl (hb hby at_75) rfl rfl ?_
  show Steps p.tables e below (T0.setTop (mkF m 76 #[.val (.int p1), .val (.ref b1), .val (.int 2), .val (.ref w_SET_DATA), .unset, .unset, .unset] [(.ref w_SET_DATA)])) _
  refine st1.trans ?_
  show Steps p.tables e below (T1.setTop (mkF m 79 #[.val (.int p1), .val (.ref b1), .val (.int 2), .val (.ref w_SET_DATA), .unset, .unset, .unset] [(.int 5)])) _
  refine XS.istore X1.here hx rfl (hb hby at_79) rfl (l' := #[.val (.int p1), .val (.ref b1), .val (.int 2), .val (.ref w_SET_DATA), .val (.int 5), .unset, .unset]) rfl ?_
  show Steps p.tables e below (T1.setTop (mkF m 81 #[.val (.int p1), .val (.ref b1), .val (.int 2), .val (.ref w_SET_DATA), .val (.int 5), .unset, .unset] [])) _
  refine XS.iload X1.here hx rfl (hb hby at_81) rfl ?_
  show Steps p.tables e below (T1.setTop (mkF m 83 #[.val (.int p1), .val (.ref b1), .val (.int 2), .val (.ref w_SET_DATA), .val (.int 5), .unset, .unset] [(.int 5)])) _
  refine XS.iconst X1.here hx rfl (hb hby at_83) ?_
  show Steps p.tables e below (T1.setTop (mkF m 84 #[.val (.int p1), .val (.ref b1), .val (.int 2), .val (.ref w_SET_DATA), .val (.int 5), .unset, .unset] [(.int 1), (.int 5)])) _
  refine XS.icmpNo X1.here hx rfl (hb hby at_84) rfl (feq (by decide : ¬ ((5 : Int32) = (1 : Int32)))).1 ?_
  show Steps p.tables e below (T1.setTop (mkF m 87 #[.val (.int p1), .val (.ref b1), .val (.int 2), .val (.ref w_SET_DATA), .val (.int 5), .unset, .unset] [])) _
  refine XS.iload X1.here hx rfl (hb hby at_87) rfl ?_
  show Steps p.tables e below (T1.setTop (mkF m 89 #[.val (.int p1), .val (.ref b1), .val (.int 2), .val (.ref w_SET_DATA), .val (.int 5), .unset, .unset] [(.int 5)])) _
  refine XS.iconst X1.here hx rfl (hb hby at_89) ?_
  show Steps p.tables e below (T1.setTop (mkF m 90 #[.val (.int p1), .val (.ref b1), .val (.int 2), .val (.ref w_SET_DATA), .val (.int 5), .unset, .unset] [(.int 2), (.int 5)])) _
  refine XS.icmpNo X1.here hx rfl (hb hby at_90) rfl (feq (by decide : ¬ ((5 : Int32) = (2 : Int32)))).1 ?_
  show Steps p.tables e below (T1.setTop (mkF m 93 #[.val (.int p1), .val (.ref b1), .val (.int 2), .val (.ref w_SET_DATA), .val (.int 5), .unset, .unset] [])) _
  refine XS.iload X1.here hx rfl (hb hby at_93) rfl ?_
  show Steps p.tables e below (T1.setTop (mkF m 95 #[.val (.int p1), .val (.ref b1), .val (.int 2), .val (.ref w_SET_DATA), .val (.int 5), .unset, .unset] [(.int 5)])) _
  refine XS.iconst X1.here hx rfl (hb hby at_95) ?_
  show Steps p.tables e below (T1.setTop (mkF m 96 #[.val (.int p1), .val (.ref b1), .val (.int 2), .val (.ref w_SET_DATA), .val (.int 5), .unset, .unset] [(.int 5), (.int 5)])) _
  refine XS.icmpYes X1.here hx rfl (pc0 := 96) (pc' := 106) rfl (hb hby at_96) rfl (teq (by decide : (5 : Int32) = (5 : Int32))).1 (by decide) (by decide) ?_
  show Steps p.tables e below (T1.setTop (mkF m 106 #[.val (.int p1), .val (.ref b1), .val (.int 2), .val (.ref w_SET_DATA), .val (.int 5), .unset, .unset] [])) _
  refine XS.iconst X1.here hx rfl (hb hby at_106) ?_
  show Steps p.tables e below (T1.setTop (mkF m 107 #[.val (.int p1), .val (.ref b1), .val (.int 2), .val (.ref w_SET_DATA), .val (.int 5), .unset, .unset] [(.int 1)])) _
  refine XS.goto X1.here hx rfl (pc0 := 107) (pc' := 111) rfl (hb hby at_107) (by decide) (by decide) ?_
  show Steps p.tables e below (T1.setTop (mkF m 111 #[.val (.int p1), .val (.ref b1), .val (.int 2), .val (.ref w_SET_DATA), .val (.int 5), .unset, .unset] [(.int 1)])) _
  refine XS.istore X1.here hx rfl (hb hby at_111) rfl (l' := #[.val (.int p1), .val (.ref b1), .val (.int 2), .val (.ref w_SET_DATA), .val (.int 5), .val (.int 1), .unset]) rfl ?_
  show Steps p.tables e below (T1.setTop (mkF m 113 #[.val (.int p1), .val (.ref b1), .val (.int 2), .val (.ref w_SET_DATA), .val (.int 5), .val (.int 1), .unset] [])) _
  refine XS.aloadN X1.here hx rfl (hb hby at_113) rfl rfl ?_
  show Steps p.tables e below (T1.setTop (mkF m 114 #[.val (.int p1), .val (.ref b1), .val (.int 2), .val (.ref w_SET_DATA), .val (.int 5), .val (.int 1), .unset] [(.ref w_SET_DATA)])) _
  refine st2.trans ?_
  show Steps p.tables e below (T2.setTop (mkF m 117 #[.val (.int p1), .val (.ref b1), .val (.int 2), .val (.ref w_SET_DATA), .val (.int 5), .val (.int 1), .unset] [(.int 1)])) _
  refine XS.istore X2.here hx rfl (hb hby at_117) rfl (l' := #[.val (.int p1), .val (.ref b1), .val (.int 2), .val (.ref w_SET_DATA), .val (.int 5), .val (.int 1), .val (.int 1)]) rfl ?_
  show Steps p.tables e below (T2.setTop (mkF m 119 #[.val (.int p1), .val (.ref b1), .val (.int 2), .val (.ref w_SET_DATA), .val (.int 5), .val (.int 1), .val (.int 1)] [])) _
  refine XS.iload X2.here hx rfl (hb hby at_119) rfl ?_
  show Steps p.tables e below (T2.setTop (mkF m 121 #[.val (.int p1), .val (.ref b1), .val (.int 2), .val (.ref w_SET_DATA), .val (.int 5), .val (.int 1), .val (.int 1)] [(.int 1)])) _
  refine XS.iload X2.here hx rfl (hb hby at_121) rfl ?_
  show Steps p.tables e below (T2.setTop (mkF m 123 #[.val (.int p1), .val (.ref b1), .val (.int 2), .val (.ref w_SET_DATA), .val (.int 5), .val (.int 1), .val (.int 1)] [(.int 1), (.int 1)])) _
  refine XS.icmpYes X2.here hx rfl (pc0 := 123) (pc' := 128) rfl (hb hby at_123) rfl (teq (by decide : (1 : Int32) = (1 : Int32))).1 (by decide) (by decide) ?_
  show Steps p.tables e below (T2.setTop (mkF m 128 #[.val (.int p1), .val (.ref b1), .val (.int 2), .val (.ref w_SET_DATA), .val (.int 5), .val (.int 1), .val (.int 1)] [])) _
  refine XS.iload X2.here hx rfl (hb hby at_128) rfl ?_
  show Steps p.tables e below (T2.setTop (mkF m 130 #[.val (.int p1), .val (.ref b1), .val (.int 2), .val (.ref w_SET_DATA), .val (.int 5), .val (.int 1), .val (.int 1)] [(.int 1)])) _
  refine XS.ifNo X2.here hx rfl (hb hby at_130) rfl ((if0 _ _).trans (feq (by decide : ¬ ((1 : Int32) = (0 : Int32)))).1) ?_
  show Steps p.tables e below (T2.setTop (mkF m 133 #[.val (.int p1), .val (.ref b1), .val (.int 2), .val (.ref w_SET_DATA), .val (.int 5), .val (.int 1), .val (.int 1)] [])) _
  refine XS.aloadN X2.here hx rfl (hb hby at_133) rfl rfl ?_
  show Steps p.tables e below (T2.setTop (mkF m 134 #[.val (.int p1), .val (.ref b1), .val (.int 2), .val (.ref w_SET_DATA), .val (.int 5), .val (.int 1), .val (.int 1)] [(.ref w_SET_DATA)])) _
  refine st3.trans ?_
  show Steps p.tables e below (T3.setTop (mkF m 137 #[.val (.int p1), .val (.ref b1), .val (.int 2), .val (.ref w_SET_DATA), .val (.int 5), .val (.int 1), .val (.int 1)] [(.int 0)])) _
  refine XS.ifYes X3.here hx rfl (pc0 := 137) (pc' := 142) rfl (hb hby at_137) rfl ((if0 _ _).trans (teq (by decide : (0 : Int32) = (0 : Int32))).1) (by decide) (by decide) ?_
  show Steps p.tables e below (T3.setTop (mkF m 142 #[.val (.int p1), .val (.ref b1), .val (.int 2), .val (.ref w_SET_DATA), .val (.int 5), .val (.int 1), .val (.int 1)] [])) _
  refine XS.iconst X3.here hx rfl (hb hby at_142) ?_
  show Steps p.tables e below (T3.setTop (mkF m 143 #[.val (.int p1), .val (.ref b1), .val (.int 2), .val (.ref w_SET_DATA), .val (.int 5), .val (.int 1), .val (.int 1)] [(.int 1)])) _
  exact kt
def Q1_w_SET_ACL (Z : State) (w_SET_ACL : Addr) (h0 : Heap) (n0 : Nat) (v : Option Value) (h : Heap) (L : List Loc) : Prop := v = some (.int 7) ∧ Fr n0 L ∧ h = h0
set_option maxRecDepth 65536 in
set_option maxHeartbeats 40000000 in
theorem rm1_w_SET_ACL (l : Launch) (Z : State) (a0 : Array Value) (hw : ∀ d ∈ tables_1, d.before a0 Z = true) (ws : List Jvm.Cond) (w_SET_ACL : Addr) (h0 : Heap) (n0 : Nat) (Z0 : n0 ≤ h0.size) (F_code_w_SET_ACL : Fld Z h0 w_SET_ACL "com/example/epochcast/epochcast/server/Txn$Type" "code" "I" (.int 7)) :
    MetFree l (⟨"com/example/epochcast/epochcast/server/Txn$Type", "code", "()I"⟩ : MethodName) (head1 (Jvm.Cond.code (⟨"com/example/epochcast/epochcast/server/Txn$Type", "code", "()I"⟩ : MethodName) prog_202_method_4_code 1 (some .int) :: ws) ({ frames := 0, cells := 0, slots := 0, locals := 0 } : Room)) (fun a U => a = #[(.ref w_SET_ACL)] ∧ Z.Warmed39 U.vm ∧ U.heap = h0) (fun _ _ _ _ _ => True) (fun _ U o U' => ∃ v L, o = .returned v ∧ Q1_w_SET_ACL Z w_SET_ACL h0 n0 v U'.heap L ∧ FrameEnd U o U' L ({ frames := 0, cells := 0, slots := 0, locals := 0 } : Room).cells ({ frames := 0, cells := 0, slots := 0, locals := 0 } : Room).slots) := by
  refine MetFree.of_bodySF (plainFor_of_name pn_1) hisR ?_
  intro p e s m args below meth c s₁ Bd hml0 hP hK
  obtain ⟨rfl, hZ, hh⟩ := hP
  have hx := Bd.exec
  have hby := Bd.bytes
  have hml : c.maxLocals = 1 := hml0
  have hown : s.vm.findClass "com/example/epochcast/epochcast/server/Txn$Type" = some m.cls := findClass_of_methodNamed Bd.named
  have hnm := (name_of_methodNamed Bd.named Bd.method).1
  have X0 : Stand p l e ({ frames := 0, cells := 0, slots := 0, locals := 0 } : Room) s m #[(.ref w_SET_ACL)] below meth c s₁ [] 0 0 := Stand.of_body Bd
  have e0 : s₁.heap = h0 := by rw [← hh, Bd.state]; rfl
  have N0 := Fr.nil n0
  have pre0 : ∀ t, Steps p.tables e below (s₁.setTop (mkF m 0 #[.val (.ref w_SET_ACL)] [])) t → Steps p.tables e below (s₁.setTop (entryFrame m #[(.ref w_SET_ACL)] 1)) t := fun t k => castTop (by first | (simp [entryFrame, mkF, argsToLocals, Value.category]; done) | rfl) k
  obtain ⟨T1, X1, e1, st1⟩ := getF X0 hx hZ hown (host := "") (Or.inl (hw _ (List.mem_of_getElem? (i := 28) rfl))) Via.refl e0 F_code_w_SET_ACL (g := (mkF m 1 #[.val (.ref w_SET_ACL)] [(.ref w_SET_ACL)])) rfl rfl (hb hby d1_1)
  obtain ⟨fs, hr, hrun, hended, hW, hsame⟩ := X1.leave (v := some (.int 7)) (fun h => by rw [Bd.returns] at h; cases h)
  refine ⟨_, _, pre0 _ ?_, hrun, hended, _, _, rfl, ?_, ⟨_, rfl⟩, hW, hsame.mono (by decide) (by decide)⟩
  · show Steps p.tables e below (s₁.setTop (mkF m 0 #[.val (.ref w_SET_ACL)] [])) _
    refine XS.aloadN X0.here hx rfl (hb hby d1_0) rfl rfl ?_
    show Steps p.tables e below (s₁.setTop (mkF m 1 #[.val (.ref w_SET_ACL)] [(.ref w_SET_ACL)])) _
    refine st1 _ ?_
    show Steps p.tables e below (T1.setTop (mkF m 4 #[.val (.ref w_SET_ACL)] [(.int 7)])) _
    exact retI X1 hx Bd.returns (hb hby d1_4) hr
  · show Q1_w_SET_ACL Z w_SET_ACL h0 n0 _ T1.heap _
    rw [e1]
    exact ⟨rfl, N0, rfl⟩
def Q2_w_SET_ACL (Z : State) (w_SET_ACL : Addr) (w_CREATE : Addr) (w_DELETE : Addr) (w_SET_DATA : Addr) (w_CHECK : Addr) (h0 : Heap) (n0 : Nat) (v : Option Value) (h : Heap) (L : List Loc) : Prop := v = some (.int 0) ∧ Fr n0 L ∧ h = h0
set_option maxRecDepth 65536 in
set_option maxHeartbeats 40000000 in
theorem rm2_w_SET_ACL (l : Launch) (Z : State) (a0 : Array Value) (hw : ∀ d ∈ tables_1, d.before a0 Z = true) (ws : List Jvm.Cond) (w_SET_ACL : Addr) (w_CREATE : Addr) (w_DELETE : Addr) (w_SET_DATA : Addr) (w_CHECK : Addr) (h0 : Heap) (n0 : Nat) (Z0 : n0 ≤ h0.size) (S_CREATE : Sta Z h0 "com/example/epochcast/epochcast/server/Txn$Type" "CREATE" "Lcom/example/epochcast/epochcast/server/Txn$Type;" (.ref w_CREATE)) (n_w_CREATE_w_SET_ACL : ¬ (w_CREATE = w_SET_ACL)) (S_DELETE : Sta Z h0 "com/example/epochcast/epochcast/server/Txn$Type" "DELETE" "Lcom/example/epochcast/epochcast/server/Txn$Type;" (.ref w_DELETE)) (n_w_DELETE_w_SET_ACL : ¬ (w_DELETE = w_SET_ACL)) (S_SET_DATA : Sta Z h0 "com/example/epochcast/epochcast/server/Txn$Type" "SET_DATA" "Lcom/example/epochcast/epochcast/server/Txn$Type;" (.ref w_SET_DATA)) (n_w_SET_ACL_w_SET_DATA : ¬ (w_SET_ACL = w_SET_DATA)) (S_CHECK : Sta Z h0 "com/example/epochcast/epochcast/server/Txn$Type" "CHECK" "Lcom/example/epochcast/epochcast/server/Txn$Type;" (.ref w_CHECK)) (n_w_CHECK_w_SET_ACL : ¬ (w_CHECK = w_SET_ACL)) :
    MetFree l (⟨"com/example/epochcast/epochcast/server/Txn$Type", "isOperation", "()Z"⟩ : MethodName) (head1 (Jvm.Cond.code (⟨"com/example/epochcast/epochcast/server/Txn$Type", "isOperation", "()Z"⟩ : MethodName) prog_202_method_6_code 1 (some .boolean) :: ws) ({ frames := 0, cells := 0, slots := 0, locals := 0 } : Room)) (fun a U => a = #[(.ref w_SET_ACL)] ∧ Z.Warmed39 U.vm ∧ U.heap = h0) (fun _ _ _ _ _ => True) (fun _ U o U' => ∃ v L, o = .returned v ∧ Q2_w_SET_ACL Z w_SET_ACL w_CREATE w_DELETE w_SET_DATA w_CHECK h0 n0 v U'.heap L ∧ FrameEnd U o U' L ({ frames := 0, cells := 0, slots := 0, locals := 0 } : Room).cells ({ frames := 0, cells := 0, slots := 0, locals := 0 } : Room).slots) := by
  refine MetFree.of_bodySF (plainFor_of_name pn_2) hisR ?_
  intro p e s m args below meth c s₁ Bd hml0 hP hK
  obtain ⟨rfl, hZ, hh⟩ := hP
  have hx := Bd.exec
  have hby := Bd.bytes
  have hml : c.maxLocals = 1 := hml0
  have hown : s.vm.findClass "com/example/epochcast/epochcast/server/Txn$Type" = some m.cls := findClass_of_methodNamed Bd.named
  have hnm := (name_of_methodNamed Bd.named Bd.method).1
  have X0 : Stand p l e ({ frames := 0, cells := 0, slots := 0, locals := 0 } : Room) s m #[(.ref w_SET_ACL)] below meth c s₁ [] 0 0 := Stand.of_body Bd
  have e0 : s₁.heap = h0 := by rw [← hh, Bd.state]; rfl
  have N0 := Fr.nil n0
  have pre0 : ∀ t, Steps p.tables e below (s₁.setTop (mkF m 0 #[.val (.ref w_SET_ACL)] [])) t → Steps p.tables e below (s₁.setTop (entryFrame m #[(.ref w_SET_ACL)] 1)) t := fun t k => castTop (by first | (simp [entryFrame, mkF, argsToLocals, Value.category]; done) | rfl) k
  obtain ⟨T1, X1, e1, st1⟩ := getS2 X0 hx hZ hown (host := "") (Or.inl (hw _ (List.mem_of_getElem? (i := 35) rfl))) Via.refl e0 S_CREATE (g := (mkF m 1 #[.val (.ref w_SET_ACL)] [(.ref w_SET_ACL)])) rfl (hb hby d2_1)
  obtain ⟨T2, X2, e2, st2⟩ := getS2 X1 hx hZ hown (host := "") (Or.inl (hw _ (List.mem_of_getElem? (i := 44) rfl))) Via.refl e1 S_DELETE (g := (mkF m 8 #[.val (.ref w_SET_ACL)] [(.ref w_SET_ACL)])) rfl (hb hby d2_8)
  obtain ⟨T3, X3, e3, st3⟩ := getS2 X2 hx hZ hown (host := "") (Or.inl (hw _ (List.mem_of_getElem? (i := 45) rfl))) Via.refl e2 S_SET_DATA (g := (mkF m 15 #[.val (.ref w_SET_ACL)] [(.ref w_SET_ACL)])) rfl (hb hby d2_15)
  obtain ⟨T4, X4, e4, st4⟩ := getS2 X3 hx hZ hown (host := "") (Or.inl (hw _ (List.mem_of_getElem? (i := 46) rfl))) Via.refl e3 S_CHECK (g := (mkF m 22 #[.val (.ref w_SET_ACL)] [(.ref w_SET_ACL)])) rfl (hb hby d2_22)
  obtain ⟨fs, hr, hrun, hended, hW, hsame⟩ := X4.leave (v := some (.int 0)) (fun h => by rw [Bd.returns] at h; cases h)
  refine ⟨_, _, pre0 _ ?_, hrun, hended, _, _, rfl, ?_, ⟨_, rfl⟩, hW, hsame.mono (by decide) (by decide)⟩
  · show Steps p.tables e below (s₁.setTop (mkF m 0 #[.val (.ref w_SET_ACL)] [])) _
    refine XS.aloadN X0.here hx rfl (hb hby d2_0) rfl rfl ?_
    show Steps p.tables e below (s₁.setTop (mkF m 1 #[.val (.ref w_SET_ACL)] [(.ref w_SET_ACL)])) _
    refine st1 _ ?_
    show Steps p.tables e below (T1.setTop (mkF m 4 #[.val (.ref w_SET_ACL)] [(.ref w_CREATE), (.ref w_SET_ACL)])) _
    refine Jvm.RoadKit.acmp (g := (mkF m 4 #[.val (.ref w_SET_ACL)] [(.ref w_CREATE), (.ref w_SET_ACL)])) X1 hx rfl rfl rfl (pc0 := 4) (pc' := 7) (same := false) rfl (hb hby d2_4) rfl (decide_eq_false fun q => (Ne.symm n_w_CREATE_w_SET_ACL) (Value.ref.inj q)) (by decide) (by decide) ?_
    show Steps p.tables e below (T1.setTop (mkF m 7 #[.val (.ref w_SET_ACL)] [])) _
    refine XS.aloadN X1.here hx rfl (hb hby d2_7) rfl rfl ?_
    show Steps p.tables e below (T1.setTop (mkF m 8 #[.val (.ref w_SET_ACL)] [(.ref w_SET_ACL)])) _
    refine st2 _ ?_
    show Steps p.tables e below (T2.setTop (mkF m 11 #[.val (.ref w_SET_ACL)] [(.ref w_DELETE), (.ref w_SET_ACL)])) _
    refine Jvm.RoadKit.acmp (g := (mkF m 11 #[.val (.ref w_SET_ACL)] [(.ref w_DELETE), (.ref w_SET_ACL)])) X2 hx rfl rfl rfl (pc0 := 11) (pc' := 14) (same := false) rfl (hb hby d2_11) rfl (decide_eq_false fun q => (Ne.symm n_w_DELETE_w_SET_ACL) (Value.ref.inj q)) (by decide) (by decide) ?_
    show Steps p.tables e below (T2.setTop (mkF m 14 #[.val (.ref w_SET_ACL)] [])) _
    refine XS.aloadN X2.here hx rfl (hb hby d2_14) rfl rfl ?_
    show Steps p.tables e below (T2.setTop (mkF m 15 #[.val (.ref w_SET_ACL)] [(.ref w_SET_ACL)])) _
    refine st3 _ ?_
    show Steps p.tables e below (T3.setTop (mkF m 18 #[.val (.ref w_SET_ACL)] [(.ref w_SET_DATA), (.ref w_SET_ACL)])) _
    refine Jvm.RoadKit.acmp (g := (mkF m 18 #[.val (.ref w_SET_ACL)] [(.ref w_SET_DATA), (.ref w_SET_ACL)])) X3 hx rfl rfl rfl (pc0 := 18) (pc' := 21) (same := false) rfl (hb hby d2_18) rfl (decide_eq_false fun q => n_w_SET_ACL_w_SET_DATA (Value.ref.inj q)) (by decide) (by decide) ?_
    show Steps p.tables e below (T3.setTop (mkF m 21 #[.val (.ref w_SET_ACL)] [])) _
    refine XS.aloadN X3.here hx rfl (hb hby d2_21) rfl rfl ?_
    show Steps p.tables e below (T3.setTop (mkF m 22 #[.val (.ref w_SET_ACL)] [(.ref w_SET_ACL)])) _
    refine st4 _ ?_
    show Steps p.tables e below (T4.setTop (mkF m 25 #[.val (.ref w_SET_ACL)] [(.ref w_CHECK), (.ref w_SET_ACL)])) _
    refine Jvm.RoadKit.acmp (g := (mkF m 25 #[.val (.ref w_SET_ACL)] [(.ref w_CHECK), (.ref w_SET_ACL)])) X4 hx rfl rfl rfl (pc0 := 25) (pc' := 32) (same := false) rfl (hb hby d2_25) rfl (decide_eq_false fun q => (Ne.symm n_w_CHECK_w_SET_ACL) (Value.ref.inj q)) (by decide) (by decide) ?_
    show Steps p.tables e below (T4.setTop (mkF m 32 #[.val (.ref w_SET_ACL)] [])) _
    refine XS.iconst X4.here hx rfl (hb hby d2_32) ?_
    show Steps p.tables e below (T4.setTop (mkF m 33 #[.val (.ref w_SET_ACL)] [(.int 0)])) _
    exact retN X4 hx (t := .boolean) Bd.returns (by simp) (hb hby d2_33) hr
  · show Q2_w_SET_ACL Z w_SET_ACL w_CREATE w_DELETE w_SET_DATA w_CHECK h0 n0 _ T4.heap _
    rw [e4]
    exact ⟨rfl, N0, rfl⟩
set_option maxRecDepth 65536 in
set_option maxHeartbeats 40000000 in
theorem pc0_k3 {p : Program} {l : Launch} {e : Env} {s : State} {m : MethodId} {args : Array Value} {below : List Frame} {meth : Method} {c : Code} {T0 : State} {locs : List Loc} {Z : State} {a0 : Array Value} {h0 : Heap} {n0 : Nat} (p1 : Int32) (b1 : Addr) (k1 : ClassId) (w_CREATE : Addr) (w_DELETE : Addr) (w_SET_DATA : Addr) (w_SET_ACL : Addr) (w_CHECK : Addr) (w_MULTI : Addr) (w_CREATE_SESSION : Addr) (w_CLOSE_SESSION : Addr) (w_AUTH : Addr)
    (X0 : Stand p l e room_1 s m args below meth c T0 locs 1 9) (hx : p.tables.exec = Jvm.exec) (hZ : Z.Warmed39 s.vm) (hw : ∀ d ∈ tables_1, d.before a0 Z = true) (hby : c.code = code) (hml : c.maxLocals = 7) (hown : s.vm.findClass "com/example/epochcast/epochcast/server/TypeIsOperationPinLaw" = some m.cls) (e0 : T0.heap = h0) (Z0 : n0 ≤ h0.size) (N0 : Fr n0 locs) (hk : ((p1 &&& (2147483647 : Int32)) % (9 : Int32)) = (3 : Int32)) (V_b1 : Arv Z h0 b1 k1 (.object "com/example/epochcast/epochcast/server/Txn$Type") (9 : Int32) [(.ref w_CREATE), (.ref w_DELETE), (.ref w_SET_DATA), (.ref w_SET_ACL), (.ref w_CHECK), (.ref w_MULTI), (.ref w_CREATE_SESSION), (.ref w_CLOSE_SESSION), (.ref w_AUTH)] .null) (F_code_w_SET_ACL : Fld Z h0 w_SET_ACL "com/example/epochcast/epochcast/server/Txn$Type" "code" "I" (.int 7)) (E_w_SET_ACL : Exa Z h0 w_SET_ACL "com/example/epochcast/epochcast/server/Txn$Type") (S_CREATE : Sta Z h0 "com/example/epochcast/epochcast/server/Txn$Type" "CREATE" "Lcom/example/epochcast/epochcast/server/Txn$Type;" (.ref w_CREATE)) (n_w_CREATE_w_SET_ACL : ¬ (w_CREATE = w_SET_ACL)) (S_DELETE : Sta Z h0 "com/example/epochcast/epochcast/server/Txn$Type" "DELETE" "Lcom/example/epochcast/epochcast/server/Txn$Type;" (.ref w_DELETE)) (n_w_DELETE_w_SET_ACL : ¬ (w_DELETE = w_SET_ACL)) (S_SET_DATA : Sta Z h0 "com/example/epochcast/epochcast/server/Txn$Type" "SET_DATA" "Lcom/example/epochcast/epochcast/server/Txn$Type;" (.ref w_SET_DATA)) (n_w_SET_ACL_w_SET_DATA : ¬ (w_SET_ACL = w_SET_DATA)) (S_CHECK : Sta Z h0 "com/example/epochcast/epochcast/server/Txn$Type" "CHECK" "Lcom/example/epochcast/epochcast/server/Txn$Type;" (.ref w_CHECK)) (n_w_CHECK_w_SET_ACL : ¬ (w_CHECK = w_SET_ACL)) :
    ∃ (T' : State) (L' : List Loc) (Ls : Array Slot), Stand p l e room_1 s m args below meth c T' L' 1 9 ∧ Fr n0 L' ∧ ∀ target, Steps p.tables e below (T'.setTop (mkF m 143 Ls [(.int 1)])) target → Steps p.tables e below (T0.setTop (mkF m 63 #[.val (.int p1), .val (.ref b1), .unset, .unset, .unset, .unset, .unset] [])) target := by
  obtain ⟨cq1, kq1, q1a, q1b, q1c⟩ := isOf hZ e0 E_w_SET_ACL
  obtain ⟨_, _, ⟨T1, L1, k1, n1⟩, -, X1, ⟨Lc1, hQ1, l1, y1, z1⟩, st1⟩ := X0.virtualBack hx (y := (⟨"com/example/epochcast/epochcast/server/Txn$Type", "code", "()I"⟩ : MethodName)) (z := (⟨"com/example/epochcast/epochcast/server/Txn$Type", "code", "()I"⟩ : MethodName)) hown (mvT hZ (hw _ (List.mem_of_getElem? (i := 23) rfl))) (mvT hZ (hw _ (List.mem_of_getElem? (i := 24) rfl))) (notFace_of_selects (args := #[]) (mvT hZ (hw _ (List.mem_of_getElem? (i := 26) rfl)))) (mvT hZ (hw _ (List.mem_of_getElem? (i := 26) rfl))) (mvT hZ (hw _ (List.mem_of_getElem? (i := 25) rfl))) (by decide) (backOf (W := 0) (rm1_w_SET_ACL l Z a0 hw [] w_SET_ACL h0 n0 Z0 F_code_w_SET_ACL) hZ (hw _ (List.mem_of_getElem? (i := 27) rfl)) (hw _ (List.mem_of_getElem? (i := 3) rfl)) (by decide) (by decide)) q1a q1c (g := (mkF m 76 #[.val (.int p1), .val (.ref b1), .val (.int 3), .val (.ref w_SET_ACL), .unset, .unset, .unset] [(.ref w_SET_ACL)])) rfl (by rw [hml]; rfl) (Steps.refl _) (argsL := []) (rest := []) (lenOf pd___I rfl) rfl (by show 2 * 0 + _ ≤ _; exact Nat.le_of_eq rfl) (hb hby at_76) (fun _ _ => ⟨rfl, e0, (by decide : 1 + 0 ≤ _), (by decide : 9 + 0 ≤ _)⟩)
  dsimp only [Pt.U, Pt.locs, Pt.cells, Pt.slots] at X1 l1 y1 z1 st1 hQ1
  subst l1 y1 z1
  obtain ⟨rfl, N1q, e1⟩ := hQ1
  have N1 := Fr.app N0 N1q
  obtain ⟨cq2, kq2, q2a, q2b, q2c⟩ := isOf hZ e1 E_w_SET_ACL
  obtain ⟨_, _, ⟨T2, L2, k2, n2⟩, -, X2, ⟨Lc2, hQ2, l2, y2, z2⟩, st2⟩ := X1.virtualBack hx (y := (⟨"com/example/epochcast/epochcast/server/Txn$Type", "isOperation", "()Z"⟩ : MethodName)) (z := (⟨"com/example/epochcast/epochcast/server/Txn$Type", "isOperation", "()Z"⟩ : MethodName)) hown (mvT hZ (hw _ (List.mem_of_getElem? (i := 30) rfl))) (mvT hZ (hw _ (List.mem_of_getElem? (i := 31) rfl))) (notFace_of_selects (args := #[]) (mvT hZ (hw _ (List.mem_of_getElem? (i := 33) rfl)))) (mvT hZ (hw _ (List.mem_of_getElem? (i := 33) rfl))) (mvT hZ (hw _ (List.mem_of_getElem? (i := 32) rfl))) (by decide) (backOf (W := 0) (rm2_w_SET_ACL l Z a0 hw [] w_SET_ACL w_CREATE w_DELETE w_SET_DATA w_CHECK h0 n0 Z0 S_CREATE n_w_CREATE_w_SET_ACL S_DELETE n_w_DELETE_w_SET_ACL S_SET_DATA n_w_SET_ACL_w_SET_DATA S_CHECK n_w_CHECK_w_SET_ACL) hZ (hw _ (List.mem_of_getElem? (i := 34) rfl)) (hw _ (List.mem_of_getElem? (i := 3) rfl)) (by decide) (by decide)) q2a q2c (g := (mkF m 114 #[.val (.int p1), .val (.ref b1), .val (.int 3), .val (.ref w_SET_ACL), .val (.int 7), .val (.int 0), .unset] [(.ref w_SET_ACL)])) rfl (by rw [hml]; rfl) (Steps.refl _) (argsL := []) (rest := []) (lenOf pd___Z rfl) rfl (by show 2 * 0 + _ ≤ _; exact Nat.le_of_eq rfl) (hb hby at_114) (fun _ _ => ⟨rfl, e1, (by decide : 1 + 0 ≤ _), (by decide : 9 + 0 ≤ _)⟩)
  dsimp only [Pt.U, Pt.locs, Pt.cells, Pt.slots] at X2 l2 y2 z2 st2 hQ2
  subst l2 y2 z2
  obtain ⟨rfl, N2q, e2⟩ := hQ2
  have N2 := Fr.app N1 N2q
  refine ⟨T2, _, #[.val (.int p1), .val (.ref b1), .val (.int 3), .val (.ref w_SET_ACL), .val (.int 7), .val (.int 0), .val (.int 0)], X2, N2, fun target kt => ?_⟩
  show Steps p.tables e below (T0.setTop (mkF m 63 #[.val (.int p1), .val (.ref b1), .unset, .unset, .unset, .unset, .unset] [])) _
  refine XS.iloadN X0.here hx rfl (hb hby at_63) rfl ?_
  show Steps p.tables e below (T0.setTop (mkF m 64 #[.val (.int p1), .val (.ref b1), .unset, .unset, .unset, .unset, .unset] [(.int p1)])) _
  refine X0.ldcInt hx hown (mvT hZ (hw _ (List.mem_of_getElem? (i := 22) rfl))) (g := (mkF m 64 #[.val (.int p1), .val (.ref b1), .unset, .unset, .unset, .unset, .unset] [(.int p1)])) rfl (hb hby at_64) _ ?_
  show Steps p.tables e below (T0.setTop (mkF m 66 #[.val (.int p1), .val (.ref b1), .unset, .unset, .unset, .unset, .unset] [(.int 2147483647), (.int p1)])) _
  refine XS.iand X0.here hx rfl (hb hby at_66) rfl ?_
  show Steps p.tables e below (T0.setTop (mkF m 67 #[.val (.int p1), .val (.ref b1), .unset, .unset, .unset, .unset, .unset] [(.int (p1 &&& (2147483647 : Int32)))])) _
  refine XS.bipush X0.here hx rfl (hb hby at_67) ?_
  show Steps p.tables e below (T0.setTop (mkF m 69 #[.val (.int p1), .val (.ref b1), .unset, .unset, .unset, .unset, .unset] [(.int 9), (.int (p1 &&& (2147483647 : Int32)))])) _
  refine iremM X0 hx rfl (hb hby at_69) rfl (by decide) ?_
  show Steps p.tables e below (T0.setTop (mkF m 70 #[.val (.int p1), .val (.ref b1), .unset, .unset, .unset, .unset, .unset] [(.int ((p1 &&& (2147483647 : Int32)) % (9 : Int32)))])) _
  rw [hk]
  show Steps p.tables e below (T0.setTop (mkF m 70 #[.val (.int p1), .val (.ref b1), .unset, .unset, .unset, .unset, .unset] [(.int 3)])) _
  refine XS.istoreN X0.here hx rfl (hb hby at_70) rfl (l' := #[.val (.int p1), .val (.ref b1), .val (.int 3), .unset, .unset, .unset, .unset]) rfl ?_
  show Steps p.tables e below (T0.setTop (mkF m 71 #[.val (.int p1), .val (.ref b1), .val (.int 3), .unset, .unset, .unset, .unset] [])) _
  refine XS.aloadN X0.here hx rfl (hb hby at_71) rfl rfl ?_
  show Steps p.tables e below (T0.setTop (mkF m 72 #[.val (.int p1), .val (.ref b1), .val (.int 3), .unset, .unset, .unset, .unset] [(.ref b1)])) _
  refine XS.iloadN X0.here hx rfl (hb hby at_72) rfl ?_
  show Steps p.tables e below (T0.setTop (mkF m 73 #[.val (.int p1), .val (.ref b1), .val (.int 3), .unset, .unset, .unset, .unset] [(.int 3), (.ref b1)])) _
  refine own_ldR X0 hx hZ e0 V_b1 (j := (3 : Int32)) ⟨by decide, by decide⟩ rfl (g := (mkF m 73 #[.val (.int p1), .val (.ref b1), .val (.int 3), .unset, .unset, .unset, .unset] [(.int 3), (.ref b1)])) rfl rfl (hb hby at_73) _ ?_
  show Steps p.tables e below (T0.setTop (mkF m 74 #[.val (.int p1), .val (.ref b1), .val (.int 3), .unset, .unset, .unset, .unset] [(.ref w_SET_ACL)])) _
  refine XS.astoreN X0.here hx rfl (hb hby at_74) rfl rfl (l' := #[.val (.int p1), .val (.ref b1), .val (.int 3), .val (.ref w_SET_ACL), .unset, .unset, .unset]) rfl ?_
  show Steps p.tables e below (T0.setTop (mkF m 75 #[.val (.int p1), .val (.ref b1), .val (.int 3), .val (.ref w_SET_ACL), .unset, .unset, .unset] [])) _
  refine XS.aloadN X0.here hx rfl (hb hby at_75) rfl rfl ?_
  show Steps p.tables e below (T0.setTop (mkF m 76 #[.val (.int p1), .val (.ref b1), .val (.int 3), .val (.ref w_SET_ACL), .unset, .unset, .unset] [(.ref w_SET_ACL)])) _
  refine st1.trans ?_
  show Steps p.tables e below (T1.setTop (mkF m 79 #[.val (.int p1), .val (.ref b1), .val (.int 3), .val (.ref w_SET_ACL), .unset, .unset, .unset] [(.int 7)])) _
  refine XS.istore X1.here hx rfl (hb hby at_79) rfl (l' := #[.val (.int p1), .val (.ref b1), .val (.int 3), .val (.ref w_SET_ACL), .val (.int 7), .unset, .unset]) rfl ?_
  show Steps p.tables e below (T1.setTop (mkF m 81 #[.val (.int p1), .val (.ref b1), .val (.int 3), .val (.ref w_SET_ACL), .val (.int 7), .unset, .unset] [])) _
  refine XS.iload X1.here hx rfl (hb hby at_81) rfl ?_
  show Steps p.tables e below (T1.setTop (mkF m 83 #[.val (.int p1), .val (.ref b1), .val (.int 3), .val (.ref w_SET_ACL), .val (.int 7), .unset, .unset] [(.int 7)])) _
  refine XS.iconst X1.here hx rfl (hb hby at_83) ?_
  show Steps p.tables e below (T1.setTop (mkF m 84 #[.val (.int p1), .val (.ref b1), .val (.int 3), .val (.ref w_SET_ACL), .val (.int 7), .unset, .unset] [(.int 1), (.int 7)])) _
  refine XS.icmpNo X1.here hx rfl (hb hby at_84) rfl (feq (by decide : ¬ ((7 : Int32) = (1 : Int32)))).1 ?_
  show Steps p.tables e below (T1.setTop (mkF m 87 #[.val (.int p1), .val (.ref b1), .val (.int 3), .val (.ref w_SET_ACL), .val (.int 7), .unset, .unset] [])) _
  refine XS.iload X1.here hx rfl (hb hby at_87) rfl ?_
  show Steps p.tables e below (T1.setTop (mkF m 89 #[.val (.int p1), .val (.ref b1), .val (.int 3), .val (.ref w_SET_ACL), .val (.int 7), .unset, .unset] [(.int 7)])) _
  refine XS.iconst X1.here hx rfl (hb hby at_89) ?_
  show Steps p.tables e below (T1.setTop (mkF m 90 #[.val (.int p1), .val (.ref b1), .val (.int 3), .val (.ref w_SET_ACL), .val (.int 7), .unset, .unset] [(.int 2), (.int 7)])) _
  refine XS.icmpNo X1.here hx rfl (hb hby at_90) rfl (feq (by decide : ¬ ((7 : Int32) = (2 : Int32)))).1 ?_
  show Steps p.tables e below (T1.setTop (mkF m 93 #[.val (.int p1), .val (.ref b1), .val (.int 3), .val (.ref w_SET_ACL), .val (.int 7), .unset, .unset] [])) _
  refine XS.iload X1.here hx rfl (hb hby at_93) rfl ?_
  show Steps p.tables e below (T1.setTop (mkF m 95 #[.val (.int p1), .val (.ref b1), .val (.int 3), .val (.ref w_SET_ACL), .val (.int 7), .unset, .unset] [(.int 7)])) _
  refine XS.iconst X1.here hx rfl (hb hby at_95) ?_
  show Steps p.tables e below (T1.setTop (mkF m 96 #[.val (.int p1), .val (.ref b1), .val (.int 3), .val (.ref w_SET_ACL), .val (.int 7), .unset, .unset] [(.int 5), (.int 7)])) _
  refine XS.icmpNo X1.here hx rfl (hb hby at_96) rfl (feq (by decide : ¬ ((7 : Int32) = (5 : Int32)))).1 ?_
  show Steps p.tables e below (T1.setTop (mkF m 99 #[.val (.int p1), .val (.ref b1), .val (.int 3), .val (.ref w_SET_ACL), .val (.int 7), .unset, .unset] [])) _
  refine XS.iload X1.here hx rfl (hb hby at_99) rfl ?_
  show Steps p.tables e below (T1.setTop (mkF m 101 #[.val (.int p1), .val (.ref b1), .val (.int 3), .val (.ref w_SET_ACL), .val (.int 7), .unset, .unset] [(.int 7)])) _
  refine XS.bipush X1.here hx rfl (hb hby at_101) ?_
  show Steps p.tables e below (T1.setTop (mkF m 103 #[.val (.int p1), .val (.ref b1), .val (.int 3), .val (.ref w_SET_ACL), .val (.int 7), .unset, .unset] [(.int 13), (.int 7)])) _
  refine XS.icmpYes X1.here hx rfl (pc0 := 103) (pc' := 110) rfl (hb hby at_103) rfl (feq (by decide : ¬ ((7 : Int32) = (13 : Int32)))).2 (by decide) (by decide) ?_
  show Steps p.tables e below (T1.setTop (mkF m 110 #[.val (.int p1), .val (.ref b1), .val (.int 3), .val (.ref w_SET_ACL), .val (.int 7), .unset, .unset] [])) _
  refine XS.iconst X1.here hx rfl (hb hby at_110) ?_
  show Steps p.tables e below (T1.setTop (mkF m 111 #[.val (.int p1), .val (.ref b1), .val (.int 3), .val (.ref w_SET_ACL), .val (.int 7), .unset, .unset] [(.int 0)])) _
  refine XS.istore X1.here hx rfl (hb hby at_111) rfl (l' := #[.val (.int p1), .val (.ref b1), .val (.int 3), .val (.ref w_SET_ACL), .val (.int 7), .val (.int 0), .unset]) rfl ?_
  show Steps p.tables e below (T1.setTop (mkF m 113 #[.val (.int p1), .val (.ref b1), .val (.int 3), .val (.ref w_SET_ACL), .val (.int 7), .val (.int 0), .unset] [])) _
  refine XS.aloadN X1.here hx rfl (hb hby at_113) rfl rfl ?_
  show Steps p.tables e below (T1.setTop (mkF m 114 #[.val (.int p1), .val (.ref b1), .val (.int 3), .val (.ref w_SET_ACL), .val (.int 7), .val (.int 0), .unset] [(.ref w_SET_ACL)])) _
  refine st2.trans ?_
  show Steps p.tables e below (T2.setTop (mkF m 117 #[.val (.int p1), .val (.ref b1), .val (.int 3), .val (.ref w_SET_ACL), .val (.int 7), .val (.int 0), .unset] [(.int 0)])) _
  refine XS.istore X2.here hx rfl (hb hby at_117) rfl (l' := #[.val (.int p1), .val (.ref b1), .val (.int 3), .val (.ref w_SET_ACL), .val (.int 7), .val (.int 0), .val (.int 0)]) rfl ?_
  show Steps p.tables e below (T2.setTop (mkF m 119 #[.val (.int p1), .val (.ref b1), .val (.int 3), .val (.ref w_SET_ACL), .val (.int 7), .val (.int 0), .val (.int 0)] [])) _
  refine XS.iload X2.here hx rfl (hb hby at_119) rfl ?_
  show Steps p.tables e below (T2.setTop (mkF m 121 #[.val (.int p1), .val (.ref b1), .val (.int 3), .val (.ref w_SET_ACL), .val (.int 7), .val (.int 0), .val (.int 0)] [(.int 0)])) _
  refine XS.iload X2.here hx rfl (hb hby at_121) rfl ?_
  show Steps p.tables e below (T2.setTop (mkF m 123 #[.val (.int p1), .val (.ref b1), .val (.int 3), .val (.ref w_SET_ACL), .val (.int 7), .val (.int 0), .val (.int 0)] [(.int 0), (.int 0)])) _
  refine XS.icmpYes X2.here hx rfl (pc0 := 123) (pc' := 128) rfl (hb hby at_123) rfl (teq (by decide : (0 : Int32) = (0 : Int32))).1 (by decide) (by decide) ?_
  show Steps p.tables e below (T2.setTop (mkF m 128 #[.val (.int p1), .val (.ref b1), .val (.int 3), .val (.ref w_SET_ACL), .val (.int 7), .val (.int 0), .val (.int 0)] [])) _
  refine XS.iload X2.here hx rfl (hb hby at_128) rfl ?_
  show Steps p.tables e below (T2.setTop (mkF m 130 #[.val (.int p1), .val (.ref b1), .val (.int 3), .val (.ref w_SET_ACL), .val (.int 7), .val (.int 0), .val (.int 0)] [(.int 0)])) _
  refine XS.ifYes X2.here hx rfl (pc0 := 130) (pc' := 142) rfl (hb hby at_130) rfl ((if0 _ _).trans (teq (by decide : (0 : Int32) = (0 : Int32))).1) (by decide) (by decide) ?_
  show Steps p.tables e below (T2.setTop (mkF m 142 #[.val (.int p1), .val (.ref b1), .val (.int 3), .val (.ref w_SET_ACL), .val (.int 7), .val (.int 0), .val (.int 0)] [])) _
  refine XS.iconst X2.here hx rfl (hb hby at_142) ?_
  show Steps p.tables e below (T2.setTop (mkF m 143 #[.val (.int p1), .val (.ref b1), .val (.int 3), .val (.ref w_SET_ACL), .val (.int 7), .val (.int 0), .val (.int 0)] [(.int 1)])) _
  exact kt
def Q1_w_CHECK (Z : State) (w_CHECK : Addr) (h0 : Heap) (n0 : Nat) (v : Option Value) (h : Heap) (L : List Loc) : Prop := v = some (.int 13) ∧ Fr n0 L ∧ h = h0
set_option maxRecDepth 65536 in
set_option maxHeartbeats 40000000 in
theorem rm1_w_CHECK (l : Launch) (Z : State) (a0 : Array Value) (hw : ∀ d ∈ tables_1, d.before a0 Z = true) (ws : List Jvm.Cond) (w_CHECK : Addr) (h0 : Heap) (n0 : Nat) (Z0 : n0 ≤ h0.size) (F_code_w_CHECK : Fld Z h0 w_CHECK "com/example/epochcast/epochcast/server/Txn$Type" "code" "I" (.int 13)) :
    MetFree l (⟨"com/example/epochcast/epochcast/server/Txn$Type", "code", "()I"⟩ : MethodName) (head1 (Jvm.Cond.code (⟨"com/example/epochcast/epochcast/server/Txn$Type", "code", "()I"⟩ : MethodName) prog_202_method_4_code 1 (some .int) :: ws) ({ frames := 0, cells := 0, slots := 0, locals := 0 } : Room)) (fun a U => a = #[(.ref w_CHECK)] ∧ Z.Warmed39 U.vm ∧ U.heap = h0) (fun _ _ _ _ _ => True) (fun _ U o U' => ∃ v L, o = .returned v ∧ Q1_w_CHECK Z w_CHECK h0 n0 v U'.heap L ∧ FrameEnd U o U' L ({ frames := 0, cells := 0, slots := 0, locals := 0 } : Room).cells ({ frames := 0, cells := 0, slots := 0, locals := 0 } : Room).slots) := by
  refine MetFree.of_bodySF (plainFor_of_name pn_1) hisR ?_
  intro p e s m args below meth c s₁ Bd hml0 hP hK
  obtain ⟨rfl, hZ, hh⟩ := hP
  have hx := Bd.exec
  have hby := Bd.bytes
  have hml : c.maxLocals = 1 := hml0
  have hown : s.vm.findClass "com/example/epochcast/epochcast/server/Txn$Type" = some m.cls := findClass_of_methodNamed Bd.named
  have hnm := (name_of_methodNamed Bd.named Bd.method).1
  have X0 : Stand p l e ({ frames := 0, cells := 0, slots := 0, locals := 0 } : Room) s m #[(.ref w_CHECK)] below meth c s₁ [] 0 0 := Stand.of_body Bd
  have e0 : s₁.heap = h0 := by rw [← hh, Bd.state]; rfl
  have N0 := Fr.nil n0
  have pre0 : ∀ t, Steps p.tables e below (s₁.setTop (mkF m 0 #[.val (.ref w_CHECK)] [])) t → Steps p.tables e below (s₁.setTop (entryFrame m #[(.ref w_CHECK)] 1)) t := fun t k => castTop (by first | (simp [entryFrame, mkF, argsToLocals, Value.category]; done) | rfl) k
  obtain ⟨T1, X1, e1, st1⟩ := getF X0 hx hZ hown (host := "") (Or.inl (hw _ (List.mem_of_getElem? (i := 28) rfl))) Via.refl e0 F_code_w_CHECK (g := (mkF m 1 #[.val (.ref w_CHECK)] [(.ref w_CHECK)])) rfl rfl (hb hby d1_1)
  obtain ⟨fs, hr, hrun, hended, hW, hsame⟩ := X1.leave (v := some (.int 13)) (fun h => by rw [Bd.returns] at h; cases h)
  refine ⟨_, _, pre0 _ ?_, hrun, hended, _, _, rfl, ?_, ⟨_, rfl⟩, hW, hsame.mono (by decide) (by decide)⟩
  · show Steps p.tables e below (s₁.setTop (mkF m 0 #[.val (.ref w_CHECK)] [])) _
    refine XS.aloadN X0.here hx rfl (hb hby d1_0) rfl rfl ?_
    show Steps p.tables e below (s₁.setTop (mkF m 1 #[.val (.ref w_CHECK)] [(.ref w_CHECK)])) _
    refine st1 _ ?_
    show Steps p.tables e below (T1.setTop (mkF m 4 #[.val (.ref w_CHECK)] [(.int 13)])) _
    exact retI X1 hx Bd.returns (hb hby d1_4) hr
  · show Q1_w_CHECK Z w_CHECK h0 n0 _ T1.heap _
    rw [e1]
    exact ⟨rfl, N0, rfl⟩
def Q2_w_CHECK (Z : State) (w_CHECK : Addr) (w_CREATE : Addr) (w_DELETE : Addr) (w_SET_DATA : Addr) (h0 : Heap) (n0 : Nat) (v : Option Value) (h : Heap) (L : List Loc) : Prop := v = some (.int 1) ∧ Fr n0 L ∧ h = h0
set_option maxRecDepth 65536 in
set_option maxHeartbeats 40000000 in
theorem rm2_w_CHECK (l : Launch) (Z : State) (a0 : Array Value) (hw : ∀ d ∈ tables_1, d.before a0 Z = true) (ws : List Jvm.Cond) (w_CHECK : Addr) (w_CREATE : Addr) (w_DELETE : Addr) (w_SET_DATA : Addr) (h0 : Heap) (n0 : Nat) (Z0 : n0 ≤ h0.size) (S_CREATE : Sta Z h0 "com/example/epochcast/epochcast/server/Txn$Type" "CREATE" "Lcom/example/epochcast/epochcast/server/Txn$Type;" (.ref w_CREATE)) (n_w_CHECK_w_CREATE : ¬ (w_CHECK = w_CREATE)) (S_DELETE : Sta Z h0 "com/example/epochcast/epochcast/server/Txn$Type" "DELETE" "Lcom/example/epochcast/epochcast/server/Txn$Type;" (.ref w_DELETE)) (n_w_CHECK_w_DELETE : ¬ (w_CHECK = w_DELETE)) (S_SET_DATA : Sta Z h0 "com/example/epochcast/epochcast/server/Txn$Type" "SET_DATA" "Lcom/example/epochcast/epochcast/server/Txn$Type;" (.ref w_SET_DATA)) (n_w_CHECK_w_SET_DATA : ¬ (w_CHECK = w_SET_DATA)) (S_CHECK : Sta Z h0 "com/example/epochcast/epochcast/server/Txn$Type" "CHECK" "Lcom/example/epochcast/epochcast/server/Txn$Type;" (.ref w_CHECK)) :
    MetFree l (⟨"com/example/epochcast/epochcast/server/Txn$Type", "isOperation", "()Z"⟩ : MethodName) (head1 (Jvm.Cond.code (⟨"com/example/epochcast/epochcast/server/Txn$Type", "isOperation", "()Z"⟩ : MethodName) prog_202_method_6_code 1 (some .boolean) :: ws) ({ frames := 0, cells := 0, slots := 0, locals := 0 } : Room)) (fun a U => a = #[(.ref w_CHECK)] ∧ Z.Warmed39 U.vm ∧ U.heap = h0) (fun _ _ _ _ _ => True) (fun _ U o U' => ∃ v L, o = .returned v ∧ Q2_w_CHECK Z w_CHECK w_CREATE w_DELETE w_SET_DATA h0 n0 v U'.heap L ∧ FrameEnd U o U' L ({ frames := 0, cells := 0, slots := 0, locals := 0 } : Room).cells ({ frames := 0, cells := 0, slots := 0, locals := 0 } : Room).slots) := by
  refine MetFree.of_bodySF (plainFor_of_name pn_2) hisR ?_
  intro p e s m args below meth c s₁ Bd hml0 hP hK
  obtain ⟨rfl, hZ, hh⟩ := hP
  have hx := Bd.exec
  have hby := Bd.bytes
  have hml : c.maxLocals = 1 := hml0
  have hown : s.vm.findClass "com/example/epochcast/epochcast/server/Txn$Type" = some m.cls := findClass_of_methodNamed Bd.named
  have hnm := (name_of_methodNamed Bd.named Bd.method).1
  have X0 : Stand p l e ({ frames := 0, cells := 0, slots := 0, locals := 0 } : Room) s m #[(.ref w_CHECK)] below meth c s₁ [] 0 0 := Stand.of_body Bd
  have e0 : s₁.heap = h0 := by rw [← hh, Bd.state]; rfl
  have N0 := Fr.nil n0
  have pre0 : ∀ t, Steps p.tables e below (s₁.setTop (mkF m 0 #[.val (.ref w_CHECK)] [])) t → Steps p.tables e below (s₁.setTop (entryFrame m #[(.ref w_CHECK)] 1)) t := fun t k => castTop (by first | (simp [entryFrame, mkF, argsToLocals, Value.category]; done) | rfl) k
  obtain ⟨T1, X1, e1, st1⟩ := getS2 X0 hx hZ hown (host := "") (Or.inl (hw _ (List.mem_of_getElem? (i := 35) rfl))) Via.refl e0 S_CREATE (g := (mkF m 1 #[.val (.ref w_CHECK)] [(.ref w_CHECK)])) rfl (hb hby d2_1)
  obtain ⟨T2, X2, e2, st2⟩ := getS2 X1 hx hZ hown (host := "") (Or.inl (hw _ (List.mem_of_getElem? (i := 44) rfl))) Via.refl e1 S_DELETE (g := (mkF m 8 #[.val (.ref w_CHECK)] [(.ref w_CHECK)])) rfl (hb hby d2_8)
  obtain ⟨T3, X3, e3, st3⟩ := getS2 X2 hx hZ hown (host := "") (Or.inl (hw _ (List.mem_of_getElem? (i := 45) rfl))) Via.refl e2 S_SET_DATA (g := (mkF m 15 #[.val (.ref w_CHECK)] [(.ref w_CHECK)])) rfl (hb hby d2_15)
  obtain ⟨T4, X4, e4, st4⟩ := getS2 X3 hx hZ hown (host := "") (Or.inl (hw _ (List.mem_of_getElem? (i := 46) rfl))) Via.refl e3 S_CHECK (g := (mkF m 22 #[.val (.ref w_CHECK)] [(.ref w_CHECK)])) rfl (hb hby d2_22)
  obtain ⟨fs, hr, hrun, hended, hW, hsame⟩ := X4.leave (v := some (.int 1)) (fun h => by rw [Bd.returns] at h; cases h)
  refine ⟨_, _, pre0 _ ?_, hrun, hended, _, _, rfl, ?_, ⟨_, rfl⟩, hW, hsame.mono (by decide) (by decide)⟩
  · show Steps p.tables e below (s₁.setTop (mkF m 0 #[.val (.ref w_CHECK)] [])) _
    refine XS.aloadN X0.here hx rfl (hb hby d2_0) rfl rfl ?_
    show Steps p.tables e below (s₁.setTop (mkF m 1 #[.val (.ref w_CHECK)] [(.ref w_CHECK)])) _
    refine st1 _ ?_
    show Steps p.tables e below (T1.setTop (mkF m 4 #[.val (.ref w_CHECK)] [(.ref w_CREATE), (.ref w_CHECK)])) _
    refine Jvm.RoadKit.acmp (g := (mkF m 4 #[.val (.ref w_CHECK)] [(.ref w_CREATE), (.ref w_CHECK)])) X1 hx rfl rfl rfl (pc0 := 4) (pc' := 7) (same := false) rfl (hb hby d2_4) rfl (decide_eq_false fun q => n_w_CHECK_w_CREATE (Value.ref.inj q)) (by decide) (by decide) ?_
    show Steps p.tables e below (T1.setTop (mkF m 7 #[.val (.ref w_CHECK)] [])) _
    refine XS.aloadN X1.here hx rfl (hb hby d2_7) rfl rfl ?_
    show Steps p.tables e below (T1.setTop (mkF m 8 #[.val (.ref w_CHECK)] [(.ref w_CHECK)])) _
    refine st2 _ ?_
    show Steps p.tables e below (T2.setTop (mkF m 11 #[.val (.ref w_CHECK)] [(.ref w_DELETE), (.ref w_CHECK)])) _
    refine Jvm.RoadKit.acmp (g := (mkF m 11 #[.val (.ref w_CHECK)] [(.ref w_DELETE), (.ref w_CHECK)])) X2 hx rfl rfl rfl (pc0 := 11) (pc' := 14) (same := false) rfl (hb hby d2_11) rfl (decide_eq_false fun q => n_w_CHECK_w_DELETE (Value.ref.inj q)) (by decide) (by decide) ?_
    show Steps p.tables e below (T2.setTop (mkF m 14 #[.val (.ref w_CHECK)] [])) _
    refine XS.aloadN X2.here hx rfl (hb hby d2_14) rfl rfl ?_
    show Steps p.tables e below (T2.setTop (mkF m 15 #[.val (.ref w_CHECK)] [(.ref w_CHECK)])) _
    refine st3 _ ?_
    show Steps p.tables e below (T3.setTop (mkF m 18 #[.val (.ref w_CHECK)] [(.ref w_SET_DATA), (.ref w_CHECK)])) _
    refine Jvm.RoadKit.acmp (g := (mkF m 18 #[.val (.ref w_CHECK)] [(.ref w_SET_DATA), (.ref w_CHECK)])) X3 hx rfl rfl rfl (pc0 := 18) (pc' := 21) (same := false) rfl (hb hby d2_18) rfl (decide_eq_false fun q => n_w_CHECK_w_SET_DATA (Value.ref.inj q)) (by decide) (by decide) ?_
    show Steps p.tables e below (T3.setTop (mkF m 21 #[.val (.ref w_CHECK)] [])) _
    refine XS.aloadN X3.here hx rfl (hb hby d2_21) rfl rfl ?_
    show Steps p.tables e below (T3.setTop (mkF m 22 #[.val (.ref w_CHECK)] [(.ref w_CHECK)])) _
    refine st4 _ ?_
    show Steps p.tables e below (T4.setTop (mkF m 25 #[.val (.ref w_CHECK)] [(.ref w_CHECK), (.ref w_CHECK)])) _
    refine Jvm.RoadKit.acmp (g := (mkF m 25 #[.val (.ref w_CHECK)] [(.ref w_CHECK), (.ref w_CHECK)])) X4 hx rfl rfl rfl (pc0 := 25) (pc' := 28) (same := true) rfl (hb hby d2_25) rfl (decide_eq_true rfl) (by decide) (by decide) ?_
    show Steps p.tables e below (T4.setTop (mkF m 28 #[.val (.ref w_CHECK)] [])) _
    refine XS.iconst X4.here hx rfl (hb hby d2_28) ?_
    show Steps p.tables e below (T4.setTop (mkF m 29 #[.val (.ref w_CHECK)] [(.int 1)])) _
    refine XS.goto X4.here hx rfl (pc0 := 29) (pc' := 33) rfl (hb hby d2_29) (by decide) (by decide) ?_
    show Steps p.tables e below (T4.setTop (mkF m 33 #[.val (.ref w_CHECK)] [(.int 1)])) _
    exact retN X4 hx (t := .boolean) Bd.returns (by simp) (hb hby d2_33) hr
  · show Q2_w_CHECK Z w_CHECK w_CREATE w_DELETE w_SET_DATA h0 n0 _ T4.heap _
    rw [e4]
    exact ⟨rfl, N0, rfl⟩
def Q3_w_CHECK (Z : State) (w_CHECK : Addr) (w_CREATE_SESSION : Addr) (w_CLOSE_SESSION : Addr) (w_AUTH : Addr) (h0 : Heap) (n0 : Nat) (v : Option Value) (h : Heap) (L : List Loc) : Prop := v = some (.int 0) ∧ Fr n0 L ∧ h = h0
set_option maxRecDepth 65536 in
set_option maxHeartbeats 40000000 in
theorem rm3_w_CHECK (l : Launch) (Z : State) (a0 : Array Value) (hw : ∀ d ∈ tables_1, d.before a0 Z = true) (ws : List Jvm.Cond) (w_CHECK : Addr) (w_CREATE_SESSION : Addr) (w_CLOSE_SESSION : Addr) (w_AUTH : Addr) (h0 : Heap) (n0 : Nat) (Z0 : n0 ≤ h0.size) (S_CREATE_SESSION : Sta Z h0 "com/example/epochcast/epochcast/server/Txn$Type" "CREATE_SESSION" "Lcom/example/epochcast/epochcast/server/Txn$Type;" (.ref w_CREATE_SESSION)) (n_w_CHECK_w_CREATE_SESSION : ¬ (w_CHECK = w_CREATE_SESSION)) (S_CLOSE_SESSION : Sta Z h0 "com/example/epochcast/epochcast/server/Txn$Type" "CLOSE_SESSION" "Lcom/example/epochcast/epochcast/server/Txn$Type;" (.ref w_CLOSE_SESSION)) (n_w_CHECK_w_CLOSE_SESSION : ¬ (w_CHECK = w_CLOSE_SESSION)) (S_AUTH : Sta Z h0 "com/example/epochcast/epochcast/server/Txn$Type" "AUTH" "Lcom/example/epochcast/epochcast/server/Txn$Type;" (.ref w_AUTH)) (n_w_AUTH_w_CHECK : ¬ (w_AUTH = w_CHECK)) :
    MetFree l (⟨"com/example/epochcast/epochcast/server/Txn$Type", "isSession", "()Z"⟩ : MethodName) (head1 (Jvm.Cond.code (⟨"com/example/epochcast/epochcast/server/Txn$Type", "isSession", "()Z"⟩ : MethodName) prog_202_method_5_code 1 (some .boolean) :: ws) ({ frames := 0, cells := 0, slots := 0, locals := 0 } : Room)) (fun a U => a = #[(.ref w_CHECK)] ∧ Z.Warmed39 U.vm ∧ U.heap = h0) (fun _ _ _ _ _ => True) (fun _ U o U' => ∃ v L, o = .returned v ∧ Q3_w_CHECK Z w_CHECK w_CREATE_SESSION w_CLOSE_SESSION w_AUTH h0 n0 v U'.heap L ∧ FrameEnd U o U' L ({ frames := 0, cells := 0, slots := 0, locals := 0 } : Room).cells ({ frames := 0, cells := 0, slots := 0, locals := 0 } : Room).slots) := by
  refine MetFree.of_bodySF (plainFor_of_name pn_3) hisR ?_
  intro p e s m args below meth c s₁ Bd hml0 hP hK
  obtain ⟨rfl, hZ, hh⟩ := hP
  have hx := Bd.exec
  have hby := Bd.bytes
  have hml : c.maxLocals = 1 := hml0
  have hown : s.vm.findClass "com/example/epochcast/epochcast/server/Txn$Type" = some m.cls := findClass_of_methodNamed Bd.named
  have hnm := (name_of_methodNamed Bd.named Bd.method).1
  have X0 : Stand p l e ({ frames := 0, cells := 0, slots := 0, locals := 0 } : Room) s m #[(.ref w_CHECK)] below meth c s₁ [] 0 0 := Stand.of_body Bd
  have e0 : s₁.heap = h0 := by rw [← hh, Bd.state]; rfl
  have N0 := Fr.nil n0
  have pre0 : ∀ t, Steps p.tables e below (s₁.setTop (mkF m 0 #[.val (.ref w_CHECK)] [])) t → Steps p.tables e below (s₁.setTop (entryFrame m #[(.ref w_CHECK)] 1)) t := fun t k => castTop (by first | (simp [entryFrame, mkF, argsToLocals, Value.category]; done) | rfl) k
  obtain ⟨T1, X1, e1, st1⟩ := getS2 X0 hx hZ hown (host := "") (Or.inl (hw _ (List.mem_of_getElem? (i := 41) rfl))) Via.refl e0 S_CREATE_SESSION (g := (mkF m 1 #[.val (.ref w_CHECK)] [(.ref w_CHECK)])) rfl (hb hby d3_1)
  obtain ⟨T2, X2, e2, st2⟩ := getS2 X1 hx hZ hown (host := "") (Or.inl (hw _ (List.mem_of_getElem? (i := 42) rfl))) Via.refl e1 S_CLOSE_SESSION (g := (mkF m 8 #[.val (.ref w_CHECK)] [(.ref w_CHECK)])) rfl (hb hby d3_8)
  obtain ⟨T3, X3, e3, st3⟩ := getS2 X2 hx hZ hown (host := "") (Or.inl (hw _ (List.mem_of_getElem? (i := 43) rfl))) Via.refl e2 S_AUTH (g := (mkF m 15 #[.val (.ref w_CHECK)] [(.ref w_CHECK)])) rfl (hb hby d3_15)
  obtain ⟨fs, hr, hrun, hended, hW, hsame⟩ := X3.leave (v := some (.int 0)) (fun h => by rw [Bd.returns] at h; cases h)
  refine ⟨_, _, pre0 _ ?_, hrun, hended, _, _, rfl, ?_, ⟨_, rfl⟩, hW, hsame.mono (by decide) (by decide)⟩
  · show Steps p.tables e below (s₁.setTop (mkF m 0 #[.val (.ref w_CHECK)] [])) _
    refine XS.aloadN X0.here hx rfl (hb hby d3_0) rfl rfl ?_
    show Steps p.tables e below (s₁.setTop (mkF m 1 #[.val (.ref w_CHECK)] [(.ref w_CHECK)])) _
    refine st1 _ ?_
    show Steps p.tables e below (T1.setTop (mkF m 4 #[.val (.ref w_CHECK)] [(.ref w_CREATE_SESSION), (.ref w_CHECK)])) _
    refine Jvm.RoadKit.acmp (g := (mkF m 4 #[.val (.ref w_CHECK)] [(.ref w_CREATE_SESSION), (.ref w_CHECK)])) X1 hx rfl rfl rfl (pc0 := 4) (pc' := 7) (same := false) rfl (hb hby d3_4) rfl (decide_eq_false fun q => n_w_CHECK_w_CREATE_SESSION (Value.ref.inj q)) (by decide) (by decide) ?_
    show Steps p.tables e below (T1.setTop (mkF m 7 #[.val (.ref w_CHECK)] [])) _
    refine XS.aloadN X1.here hx rfl (hb hby d3_7) rfl rfl ?_
    show Steps p.tables e below (T1.setTop (mkF m 8 #[.val (.ref w_CHECK)] [(.ref w_CHECK)])) _
    refine st2 _ ?_
    show Steps p.tables e below (T2.setTop (mkF m 11 #[.val (.ref w_CHECK)] [(.ref w_CLOSE_SESSION), (.ref w_CHECK)])) _
    refine Jvm.RoadKit.acmp (g := (mkF m 11 #[.val (.ref w_CHECK)] [(.ref w_CLOSE_SESSION), (.ref w_CHECK)])) X2 hx rfl rfl rfl (pc0 := 11) (pc' := 14) (same := false) rfl (hb hby d3_11) rfl (decide_eq_false fun q => n_w_CHECK_w_CLOSE_SESSION (Value.ref.inj q)) (by decide) (by decide) ?_
    show Steps p.tables e below (T2.setTop (mkF m 14 #[.val (.ref w_CHECK)] [])) _
    refine XS.aloadN X2.here hx rfl (hb hby d3_14) rfl rfl ?_
    show Steps p.tables e below (T2.setTop (mkF m 15 #[.val (.ref w_CHECK)] [(.ref w_CHECK)])) _
    refine st3 _ ?_
    show Steps p.tables e below (T3.setTop (mkF m 18 #[.val (.ref w_CHECK)] [(.ref w_AUTH), (.ref w_CHECK)])) _
    refine Jvm.RoadKit.acmp (g := (mkF m 18 #[.val (.ref w_CHECK)] [(.ref w_AUTH), (.ref w_CHECK)])) X3 hx rfl rfl rfl (pc0 := 18) (pc' := 25) (same := false) rfl (hb hby d3_18) rfl (decide_eq_false fun q => (Ne.symm n_w_AUTH_w_CHECK) (Value.ref.inj q)) (by decide) (by decide) ?_
    show Steps p.tables e below (T3.setTop (mkF m 25 #[.val (.ref w_CHECK)] [])) _
    refine XS.iconst X3.here hx rfl (hb hby d3_25) ?_
    show Steps p.tables e below (T3.setTop (mkF m 26 #[.val (.ref w_CHECK)] [(.int 0)])) _
    exact retN X3 hx (t := .boolean) Bd.returns (by simp) (hb hby d3_26) hr
  · show Q3_w_CHECK Z w_CHECK w_CREATE_SESSION w_CLOSE_SESSION w_AUTH h0 n0 _ T3.heap _
    rw [e3]
    exact ⟨rfl, N0, rfl⟩
set_option maxRecDepth 65536 in
set_option maxHeartbeats 40000000 in
theorem pc0_k4 {p : Program} {l : Launch} {e : Env} {s : State} {m : MethodId} {args : Array Value} {below : List Frame} {meth : Method} {c : Code} {T0 : State} {locs : List Loc} {Z : State} {a0 : Array Value} {h0 : Heap} {n0 : Nat} (p1 : Int32) (b1 : Addr) (k1 : ClassId) (w_CREATE : Addr) (w_DELETE : Addr) (w_SET_DATA : Addr) (w_SET_ACL : Addr) (w_CHECK : Addr) (w_MULTI : Addr) (w_CREATE_SESSION : Addr) (w_CLOSE_SESSION : Addr) (w_AUTH : Addr)
    (X0 : Stand p l e room_1 s m args below meth c T0 locs 1 9) (hx : p.tables.exec = Jvm.exec) (hZ : Z.Warmed39 s.vm) (hw : ∀ d ∈ tables_1, d.before a0 Z = true) (hby : c.code = code) (hml : c.maxLocals = 7) (hown : s.vm.findClass "com/example/epochcast/epochcast/server/TypeIsOperationPinLaw" = some m.cls) (e0 : T0.heap = h0) (Z0 : n0 ≤ h0.size) (N0 : Fr n0 locs) (hk : ((p1 &&& (2147483647 : Int32)) % (9 : Int32)) = (4 : Int32)) (V_b1 : Arv Z h0 b1 k1 (.object "com/example/epochcast/epochcast/server/Txn$Type") (9 : Int32) [(.ref w_CREATE), (.ref w_DELETE), (.ref w_SET_DATA), (.ref w_SET_ACL), (.ref w_CHECK), (.ref w_MULTI), (.ref w_CREATE_SESSION), (.ref w_CLOSE_SESSION), (.ref w_AUTH)] .null) (F_code_w_CHECK : Fld Z h0 w_CHECK "com/example/epochcast/epochcast/server/Txn$Type" "code" "I" (.int 13)) (E_w_CHECK : Exa Z h0 w_CHECK "com/example/epochcast/epochcast/server/Txn$Type") (S_CREATE : Sta Z h0 "com/example/epochcast/epochcast/server/Txn$Type" "CREATE" "Lcom/example/epochcast/epochcast/server/Txn$Type;" (.ref w_CREATE)) (n_w_CHECK_w_CREATE : ¬ (w_CHECK = w_CREATE)) (S_DELETE : Sta Z h0 "com/example/epochcast/epochcast/server/Txn$Type" "DELETE" "Lcom/example/epochcast/epochcast/server/Txn$Type;" (.ref w_DELETE)) (n_w_CHECK_w_DELETE : ¬ (w_CHECK = w_DELETE)) (S_SET_DATA : Sta Z h0 "com/example/epochcast/epochcast/server/Txn$Type" "SET_DATA" "Lcom/example/epochcast/epochcast/server/Txn$Type;" (.ref w_SET_DATA)) (n_w_CHECK_w_SET_DATA : ¬ (w_CHECK = w_SET_DATA)) (S_CHECK : Sta Z h0 "com/example/epochcast/epochcast/server/Txn$Type" "CHECK" "Lcom/example/epochcast/epochcast/server/Txn$Type;" (.ref w_CHECK)) (S_CREATE_SESSION : Sta Z h0 "com/example/epochcast/epochcast/server/Txn$Type" "CREATE_SESSION" "Lcom/example/epochcast/epochcast/server/Txn$Type;" (.ref w_CREATE_SESSION)) (n_w_CHECK_w_CREATE_SESSION : ¬ (w_CHECK = w_CREATE_SESSION)) (S_CLOSE_SESSION : Sta Z h0 "com/example/epochcast/epochcast/server/Txn$Type" "CLOSE_SESSION" "Lcom/example/epochcast/epochcast/server/Txn$Type;" (.ref w_CLOSE_SESSION)) (n_w_CHECK_w_CLOSE_SESSION : ¬ (w_CHECK = w_CLOSE_SESSION)) (S_AUTH : Sta Z h0 "com/example/epochcast/epochcast/server/Txn$Type" "AUTH" "Lcom/example/epochcast/epochcast/server/Txn$Type;" (.ref w_AUTH)) (n_w_AUTH_w_CHECK : ¬ (w_AUTH = w_CHECK)) :
    ∃ (T' : State) (L' : List Loc) (Ls : Array Slot), Stand p l e room_1 s m args below meth c T' L' 1 9 ∧ Fr n0 L' ∧ ∀ target, Steps p.tables e below (T'.setTop (mkF m 143 Ls [(.int 1)])) target → Steps p.tables e below (T0.setTop (mkF m 63 #[.val (.int p1), .val (.ref b1), .unset, .unset, .unset, .unset, .unset] [])) target := by
  obtain ⟨cq1, kq1, q1a, q1b, q1c⟩ := isOf hZ e0 E_w_CHECK
  obtain ⟨_, _, ⟨T1, L1, k1, n1⟩, -, X1, ⟨Lc1, hQ1, l1, y1, z1⟩, st1⟩ := X0.virtualBack hx (y := (⟨"com/example/epochcast/epochcast/server/Txn$Type", "code", "()I"⟩ : MethodName)) (z := (⟨"com/example/epochcast/epochcast/server/Txn$Type", "code", "()I"⟩ : MethodName)) hown (mvT hZ (hw _ (List.mem_of_getElem? (i := 23) rfl))) (mvT hZ (hw _ (List.mem_of_getElem? (i := 24) rfl))) (notFace_of_selects (args := #[]) (mvT hZ (hw _ (List.mem_of_getElem? (i := 26) rfl)))) (mvT hZ (hw _ (List.mem_of_getElem? (i := 26) rfl))) (mvT hZ (hw _ (List.mem_of_getElem? (i := 25) rfl))) (by decide) (backOf (W := 0) (rm1_w_CHECK l Z a0 hw [] w_CHECK h0 n0 Z0 F_code_w_CHECK) hZ (hw _ (List.mem_of_getElem? (i := 27) rfl)) (hw _ (List.mem_of_getElem? (i := 3) rfl)) (by decide) (by decide)) q1a q1c (g := (mkF m 76 #[.val (.int p1), .val (.ref b1), .val (.int 4), .val (.ref w_CHECK), .unset, .unset, .unset] [(.ref w_CHECK)])) rfl (by rw [hml]; rfl) (Steps.refl _) (argsL := []) (rest := []) (lenOf pd___I rfl) rfl (by show 2 * 0 + _ ≤ _; exact Nat.le_of_eq rfl) (hb hby at_76) (fun _ _ => ⟨rfl, e0, (by decide : 1 + 0 ≤ _), (by decide : 9 + 0 ≤ _)⟩)
  dsimp only [Pt.U, Pt.locs, Pt.cells, Pt.slots] at X1 l1 y1 z1 st1 hQ1
  subst l1 y1 z1
  obtain ⟨rfl, N1q, e1⟩ := hQ1
  have N1 := Fr.app N0 N1q
  obtain ⟨cq2, kq2, q2a, q2b, q2c⟩ := isOf hZ e1 E_w_CHECK
  obtain ⟨_, _, ⟨T2, L2, k2, n2⟩, -, X2, ⟨Lc2, hQ2, l2, y2, z2⟩, st2⟩ := X1.virtualBack hx (y := (⟨"com/example/epochcast/epochcast/server/Txn$Type", "isOperation", "()Z"⟩ : MethodName)) (z := (⟨"com/example/epochcast/epochcast/server/Txn$Type", "isOperation", "()Z"⟩ : MethodName)) hown (mvT hZ (hw _ (List.mem_of_getElem? (i := 30) rfl))) (mvT hZ (hw _ (List.mem_of_getElem? (i := 31) rfl))) (notFace_of_selects (args := #[]) (mvT hZ (hw _ (List.mem_of_getElem? (i := 33) rfl)))) (mvT hZ (hw _ (List.mem_of_getElem? (i := 33) rfl))) (mvT hZ (hw _ (List.mem_of_getElem? (i := 32) rfl))) (by decide) (backOf (W := 0) (rm2_w_CHECK l Z a0 hw [] w_CHECK w_CREATE w_DELETE w_SET_DATA h0 n0 Z0 S_CREATE n_w_CHECK_w_CREATE S_DELETE n_w_CHECK_w_DELETE S_SET_DATA n_w_CHECK_w_SET_DATA S_CHECK) hZ (hw _ (List.mem_of_getElem? (i := 34) rfl)) (hw _ (List.mem_of_getElem? (i := 3) rfl)) (by decide) (by decide)) q2a q2c (g := (mkF m 114 #[.val (.int p1), .val (.ref b1), .val (.int 4), .val (.ref w_CHECK), .val (.int 13), .val (.int 1), .unset] [(.ref w_CHECK)])) rfl (by rw [hml]; rfl) (Steps.refl _) (argsL := []) (rest := []) (lenOf pd___Z rfl) rfl (by show 2 * 0 + _ ≤ _; exact Nat.le_of_eq rfl) (hb hby at_114) (fun _ _ => ⟨rfl, e1, (by decide : 1 + 0 ≤ _), (by decide : 9 + 0 ≤ _)⟩)
  dsimp only [Pt.U, Pt.locs, Pt.cells, Pt.slots] at X2 l2 y2 z2 st2 hQ2
  subst l2 y2 z2
  obtain ⟨rfl, N2q, e2⟩ := hQ2
  have N2 := Fr.app N1 N2q
  obtain ⟨cq3, kq3, q3a, q3b, q3c⟩ := isOf hZ e2 E_w_CHECK
  obtain ⟨_, _, ⟨T3, L3, k3, n3⟩, -, X3, ⟨Lc3, hQ3, l3, y3, z3⟩, st3⟩ := X2.virtualBack hx (y := (⟨"com/example/epochcast/epochcast/server/Txn$Type", "isSession", "()Z"⟩ : MethodName)) (z := (⟨"com/example/epochcast/epochcast/server/Txn$Type", "isSession", "()Z"⟩ : MethodName)) hown (mvT hZ (hw _ (List.mem_of_getElem? (i := 36) rfl))) (mvT hZ (hw _ (List.mem_of_getElem? (i := 37) rfl))) (notFace_of_selects (args := #[]) (mvT hZ (hw _ (List.mem_of_getElem? (i := 39) rfl)))) (mvT hZ (hw _ (List.mem_of_getElem? (i := 39) rfl))) (mvT hZ (hw _ (List.mem_of_getElem? (i := 38) rfl))) (by decide) (backOf (W := 0) (rm3_w_CHECK l Z a0 hw [] w_CHECK w_CREATE_SESSION w_CLOSE_SESSION w_AUTH h0 n0 Z0 S_CREATE_SESSION n_w_CHECK_w_CREATE_SESSION S_CLOSE_SESSION n_w_CHECK_w_CLOSE_SESSION S_AUTH n_w_AUTH_w_CHECK) hZ (hw _ (List.mem_of_getElem? (i := 40) rfl)) (hw _ (List.mem_of_getElem? (i := 3) rfl)) (by decide) (by decide)) q3a q3c (g := (mkF m 134 #[.val (.int p1), .val (.ref b1), .val (.int 4), .val (.ref w_CHECK), .val (.int 13), .val (.int 1), .val (.int 1)] [(.ref w_CHECK)])) rfl (by rw [hml]; rfl) (Steps.refl _) (argsL := []) (rest := []) (lenOf pd___Z rfl) rfl (by show 2 * 0 + _ ≤ _; exact Nat.le_of_eq rfl) (hb hby at_134) (fun _ _ => ⟨rfl, e2, (by decide : 1 + 0 ≤ _), (by decide : 9 + 0 ≤ _)⟩)
  dsimp only [Pt.U, Pt.locs, Pt.cells, Pt.slots] at X3 l3 y3 z3 st3 hQ3
  subst l3 y3 z3
  obtain ⟨rfl, N3q, e3⟩ := hQ3
  have N3 := Fr.app N2 N3q
  refine ⟨T3, _, #[.val (.int p1), .val (.ref b1), .val (.int 4), .val (.ref w_CHECK), .val (.int 13), .val (.int 1), .val (.int 1)], X3, N3, fun target kt => ?_⟩
  show Steps p.tables e below (T0.setTop (mkF m 63 #[.val (.int p1), .val (.ref b1), .unset, .unset, .unset, .unset, .unset] [])) _
  refine XS.iloadN X0.here hx rfl (hb hby at_63) rfl ?_
  show Steps p.tables e below (T0.setTop (mkF m 64 #[.val (.int p1), .val (.ref b1), .unset, .unset, .unset, .unset, .unset] [(.int p1)])) _
  refine X0.ldcInt hx hown (mvT hZ (hw _ (List.mem_of_getElem? (i := 22) rfl))) (g := (mkF m 64 #[.val (.int p1), .val (.ref b1), .unset, .unset, .unset, .unset, .unset] [(.int p1)])) rfl (hb hby at_64) _ ?_
  show Steps p.tables e below (T0.setTop (mkF m 66 #[.val (.int p1), .val (.ref b1), .unset, .unset, .unset, .unset, .unset] [(.int 2147483647), (.int p1)])) _
  refine XS.iand X0.here hx rfl (hb hby at_66) rfl ?_
  show Steps p.tables e below (T0.setTop (mkF m 67 #[.val (.int p1), .val (.ref b1), .unset, .unset, .unset, .unset, .unset] [(.int (p1 &&& (2147483647 : Int32)))])) _
  refine XS.bipush X0.here hx rfl (hb hby at_67) ?_
  show Steps p.tables e below (T0.setTop (mkF m 69 #[.val (.int p1), .val (.ref b1), .unset, .unset, .unset, .unset, .unset] [(.int 9), (.int (p1 &&& (2147483647 : Int32)))])) _
  refine iremM X0 hx rfl (hb hby at_69) rfl (by decide) ?_
  show Steps p.tables e below (T0.setTop (mkF m 70 #[.val (.int p1), .val (.ref b1), .unset, .unset, .unset, .unset, .unset] [(.int ((p1 &&& (2147483647 : Int32)) % (9 : Int32)))])) _
  rw [hk]
  show Steps p.tables e below (T0.setTop (mkF m 70 #[.val (.int p1), .val (.ref b1), .unset, .unset, .unset, .unset, .unset] [(.int 4)])) _
  refine XS.istoreN X0.here hx rfl (hb hby at_70) rfl (l' := #[.val (.int p1), .val (.ref b1), .val (.int 4), .unset, .unset, .unset, .unset]) rfl ?_
  show Steps p.tables e below (T0.setTop (mkF m 71 #[.val (.int p1), .val (.ref b1), .val (.int 4), .unset, .unset, .unset, .unset] [])) _
  refine XS.aloadN X0.here hx rfl (hb hby at_71) rfl rfl ?_
  show Steps p.tables e below (T0.setTop (mkF m 72 #[.val (.int p1), .val (.ref b1), .val (.int 4), .unset, .unset, .unset, .unset] [(.ref b1)])) _
  refine XS.iloadN X0.here hx rfl (hb hby at_72) rfl ?_
  show Steps p.tables e below (T0.setTop (mkF m 73 #[.val (.int p1), .val (.ref b1), .val (.int 4), .unset, .unset, .unset, .unset] [(.int 4), (.ref b1)])) _
  refine own_ldR X0 hx hZ e0 V_b1 (j := (4 : Int32)) ⟨by decide, by decide⟩ rfl (g := (mkF m 73 #[.val (.int p1), .val (.ref b1), .val (.int 4), .unset, .unset, .unset, .unset] [(.int 4), (.ref b1)])) rfl rfl (hb hby at_73) _ ?_
  show Steps p.tables e below (T0.setTop (mkF m 74 #[.val (.int p1), .val (.ref b1), .val (.int 4), .unset, .unset, .unset, .unset] [(.ref w_CHECK)])) _
  refine XS.astoreN X0.here hx rfl (hb hby at_74) rfl rfl (l' := #[.val (.int p1), .val (.ref b1), .val (.int 4), .val (.ref w_CHECK), .unset, .unset, .unset]) rfl ?_
  show Steps p.tables e below (T0.setTop (mkF m 75 #[.val (.int p1), .val (.ref b1), .val (.int 4), .val (.ref w_CHECK), .unset, .unset, .unset] [])) _
  refine XS.aloadN X0.here hx rfl (hb hby at_75) rfl rfl ?_
  show Steps p.tables e below (T0.setTop (mkF m 76 #[.val (.int p1), .val (.ref b1), .val (.int 4), .val (.ref w_CHECK), .unset, .unset, .unset] [(.ref w_CHECK)])) _
  refine st1.trans ?_
  show Steps p.tables e below (T1.setTop (mkF m 79 #[.val (.int p1), .val (.ref b1), .val (.int 4), .val (.ref w_CHECK), .unset, .unset, .unset] [(.int 13)])) _
  refine XS.istore X1.here hx rfl (hb hby at_79) rfl (l' := #[.val (.int p1), .val (.ref b1), .val (.int 4), .val (.ref w_CHECK), .val (.int 13), .unset, .unset]) rfl ?_
  show Steps p.tables e below (T1.setTop (mkF m 81 #[.val (.int p1), .val (.ref b1), .val (.int 4), .val (.ref w_CHECK), .val (.int 13), .unset, .unset] [])) _
  refine XS.iload X1.here hx rfl (hb hby at_81) rfl ?_
  show Steps p.tables e below (T1.setTop (mkF m 83 #[.val (.int p1), .val (.ref b1), .val (.int 4), .val (.ref w_CHECK), .val (.int 13), .unset, .unset] [(.int 13)])) _
  refine XS.iconst X1.here hx rfl (hb hby at_83) ?_
  show Steps p.tables e below (T1.setTop (mkF m 84 #[.val (.int p1), .val (.ref b1), .val (.int 4), .val (.ref w_CHECK), .val (.int 13), .unset, .unset] [(.int 1), (.int 13)])) _
  refine XS.icmpNo X1.here hx rfl (hb hby at_84) rfl (feq (by decide : ¬ ((13 : Int32) = (1 : Int32)))).1 ?_
  show Steps p.tables e below (T1.setTop (mkF m 87 #[.val (.int p1), .val (.ref b1), .val (.int 4), .val (.ref w_CHECK), .val (.int 13), .unset, .unset] [])) _
  refine XS.iload X1.here hx rfl (hb hby at_87) rfl ?_
  show Steps p.tables e below (T1.setTop (mkF m 89 #[.val (.int p1), .val (.ref b1), .val (.int 4), .val (.ref w_CHECK), .val (.int 13), .unset, .unset] [(.int 13)])) _
  refine XS.iconst X1.here hx rfl (hb hby at_89) ?_
  show Steps p.tables e below (T1.setTop (mkF m 90 #[.val (.int p1), .val (.ref b1), .val (.int 4), .val (.ref w_CHECK), .val (.int 13), .unset, .unset] [(.int 2), (.int 13)])) _
  refine XS.icmpNo X1.here hx rfl (hb hby at_90) rfl (feq (by decide : ¬ ((13 : Int32) = (2 : Int32)))).1 ?_
  show Steps p.tables e below (T1.setTop (mkF m 93 #[.val (.int p1), .val (.ref b1), .val (.int 4), .val (.ref w_CHECK), .val (.int 13), .unset, .unset] [])) _
  refine XS.iload X1.here hx rfl (hb hby at_93) rfl ?_
  show Steps p.tables e below (T1.setTop (mkF m 95 #[.val (.int p1), .val (.ref b1), .val (.int 4), .val (.ref w_CHECK), .val (.int 13), .unset, .unset] [(.int 13)])) _
  refine XS.iconst X1.here hx rfl (hb hby at_95) ?_
  show Steps p.tables e below (T1.setTop (mkF m 96 #[.val (.int p1), .val (.ref b1), .val (.int 4), .val (.ref w_CHECK), .val (.int 13), .unset, .unset] [(.int 5), (.int 13)])) _
  refine XS.icmpNo X1.here hx rfl (hb hby at_96) rfl (feq (by decide : ¬ ((13 : Int32) = (5 : Int32)))).1 ?_
  show Steps p.tables e below (T1.setTop (mkF m 99 #[.val (.int p1), .val (.ref b1), .val (.int 4), .val (.ref w_CHECK), .val (.int 13), .unset, .unset] [])) _
  refine XS.iload X1.here hx rfl (hb hby at_99) rfl ?_
  show Steps p.tables e below (T1.setTop (mkF m 101 #[.val (.int p1), .val (.ref b1), .val (.int 4), .val (.ref w_CHECK), .val (.int 13), .unset, .unset] [(.int 13)])) _
  refine XS.bipush X1.here hx rfl (hb hby at_101) ?_
  show Steps p.tables e below (T1.setTop (mkF m 103 #[.val (.int p1), .val (.ref b1), .val (.int 4), .val (.ref w_CHECK), .val (.int 13), .unset, .unset] [(.int 13), (.int 13)])) _
  refine XS.icmpNo X1.here hx rfl (hb hby at_103) rfl (teq (by decide : (13 : Int32) = (13 : Int32))).2 ?_
  show Steps p.tables e below (T1.setTop (mkF m 106 #[.val (.int p1), .val (.ref b1), .val (.int 4), .val (.ref w_CHECK), .val (.int 13), .unset, .unset] [])) _
  refine XS.iconst X1.here hx rfl (hb hby at_106) ?_
  show Steps p.tables e below (T1.setTop (mkF m 107 #[.val (.int p1), .val (.ref b1), .val (.int 4), .val (.ref w_CHECK), .val (.int 13), .unset, .unset] [(.int 1)])) _
  refine XS.goto X1.here hx rfl (pc0 := 107) (pc' := 111) rfl (hb hby at_107) (by decide) (by decide) ?_
  show Steps p.tables e below (T1.setTop (mkF m 111 #[.val (.int p1), .val (.ref b1), .val (.int 4), .val (.ref w_CHECK), .val (.int 13), .unset, .unset] [(.int 1)])) _
  refine XS.istore X1.here hx rfl (hb hby at_111) rfl (l' := #[.val (.int p1), .val (.ref b1), .val (.int 4), .val (.ref w_CHECK), .val (.int 13), .val (.int 1), .unset]) rfl ?_
  show Steps p.tables e below (T1.setTop (mkF m 113 #[.val (.int p1), .val (.ref b1), .val (.int 4), .val (.ref w_CHECK), .val (.int 13), .val (.int 1), .unset] [])) _
  refine XS.aloadN X1.here hx rfl (hb hby at_113) rfl rfl ?_
  show Steps p.tables e below (T1.setTop (mkF m 114 #[.val (.int p1), .val (.ref b1), .val (.int 4), .val (.ref w_CHECK), .val (.int 13), .val (.int 1), .unset] [(.ref w_CHECK)])) _
  refine st2.trans ?_
  show Steps p.tables e below (T2.setTop (mkF m 117 #[.val (.int p1), .val (.ref b1), .val (.int 4), .val (.ref w_CHECK), .val (.int 13), .val (.int 1), .unset] [(.int 1)])) _
  refine XS.istore X2.here hx rfl (hb hby at_117) rfl (l' := #[.val (.int p1), .val (.ref b1), .val (.int 4), .val (.ref w_CHECK), .val (.int 13), .val (.int 1), .val (.int 1)]) rfl ?_
  show Steps p.tables e below (T2.setTop (mkF m 119 #[.val (.int p1), .val (.ref b1), .val (.int 4), .val (.ref w_CHECK), .val (.int 13), .val (.int 1), .val (.int 1)] [])) _
  refine XS.iload X2.here hx rfl (hb hby at_119) rfl ?_
  show Steps p.tables e below (T2.setTop (mkF m 121 #[.val (.int p1), .val (.ref b1), .val (.int 4), .val (.ref w_CHECK), .val (.int 13), .val (.int 1), .val (.int 1)] [(.int 1)])) _
  refine XS.iload X2.here hx rfl (hb hby at_121) rfl ?_
  show Steps p.tables e below (T2.setTop (mkF m 123 #[.val (.int p1), .val (.ref b1), .val (.int 4), .val (.ref w_CHECK), .val (.int 13), .val (.int 1), .val (.int 1)] [(.int 1), (.int 1)])) _
  refine XS.icmpYes X2.here hx rfl (pc0 := 123) (pc' := 128) rfl (hb hby at_123) rfl (teq (by decide : (1 : Int32) = (1 : Int32))).1 (by decide) (by decide) ?_
  show Steps p.tables e below (T2.setTop (mkF m 128 #[.val (.int p1), .val (.ref b1), .val (.int 4), .val (.ref w_CHECK), .val (.int 13), .val (.int 1), .val (.int 1)] [])) _
  refine XS.iload X2.here hx rfl (hb hby at_128) rfl ?_
  show Steps p.tables e below (T2.setTop (mkF m 130 #[.val (.int p1), .val (.ref b1), .val (.int 4), .val (.ref w_CHECK), .val (.int 13), .val (.int 1), .val (.int 1)] [(.int 1)])) _
  refine XS.ifNo X2.here hx rfl (hb hby at_130) rfl ((if0 _ _).trans (feq (by decide : ¬ ((1 : Int32) = (0 : Int32)))).1) ?_
  show Steps p.tables e below (T2.setTop (mkF m 133 #[.val (.int p1), .val (.ref b1), .val (.int 4), .val (.ref w_CHECK), .val (.int 13), .val (.int 1), .val (.int 1)] [])) _
  refine XS.aloadN X2.here hx rfl (hb hby at_133) rfl rfl ?_
  show Steps p.tables e below (T2.setTop (mkF m 134 #[.val (.int p1), .val (.ref b1), .val (.int 4), .val (.ref w_CHECK), .val (.int 13), .val (.int 1), .val (.int 1)] [(.ref w_CHECK)])) _
  refine st3.trans ?_
  show Steps p.tables e below (T3.setTop (mkF m 137 #[.val (.int p1), .val (.ref b1), .val (.int 4), .val (.ref w_CHECK), .val (.int 13), .val (.int 1), .val (.int 1)] [(.int 0)])) _
  refine XS.ifYes X3.here hx rfl (pc0 := 137) (pc' := 142) rfl (hb hby at_137) rfl ((if0 _ _).trans (teq (by decide : (0 : Int32) = (0 : Int32))).1) (by decide) (by decide) ?_
  show Steps p.tables e below (T3.setTop (mkF m 142 #[.val (.int p1), .val (.ref b1), .val (.int 4), .val (.ref w_CHECK), .val (.int 13), .val (.int 1), .val (.int 1)] [])) _
  refine XS.iconst X3.here hx rfl (hb hby at_142) ?_
  show Steps p.tables e below (T3.setTop (mkF m 143 #[.val (.int p1), .val (.ref b1), .val (.int 4), .val (.ref w_CHECK), .val (.int 13), .val (.int 1), .val (.int 1)] [(.int 1)])) _
  exact kt
def Q1_w_MULTI (Z : State) (w_MULTI : Addr) (h0 : Heap) (n0 : Nat) (v : Option Value) (h : Heap) (L : List Loc) : Prop := v = some (.int 14) ∧ Fr n0 L ∧ h = h0
set_option maxRecDepth 65536 in
set_option maxHeartbeats 40000000 in
theorem rm1_w_MULTI (l : Launch) (Z : State) (a0 : Array Value) (hw : ∀ d ∈ tables_1, d.before a0 Z = true) (ws : List Jvm.Cond) (w_MULTI : Addr) (h0 : Heap) (n0 : Nat) (Z0 : n0 ≤ h0.size) (F_code_w_MULTI : Fld Z h0 w_MULTI "com/example/epochcast/epochcast/server/Txn$Type" "code" "I" (.int 14)) :
    MetFree l (⟨"com/example/epochcast/epochcast/server/Txn$Type", "code", "()I"⟩ : MethodName) (head1 (Jvm.Cond.code (⟨"com/example/epochcast/epochcast/server/Txn$Type", "code", "()I"⟩ : MethodName) prog_202_method_4_code 1 (some .int) :: ws) ({ frames := 0, cells := 0, slots := 0, locals := 0 } : Room)) (fun a U => a = #[(.ref w_MULTI)] ∧ Z.Warmed39 U.vm ∧ U.heap = h0) (fun _ _ _ _ _ => True) (fun _ U o U' => ∃ v L, o = .returned v ∧ Q1_w_MULTI Z w_MULTI h0 n0 v U'.heap L ∧ FrameEnd U o U' L ({ frames := 0, cells := 0, slots := 0, locals := 0 } : Room).cells ({ frames := 0, cells := 0, slots := 0, locals := 0 } : Room).slots) := by
  refine MetFree.of_bodySF (plainFor_of_name pn_1) hisR ?_
  intro p e s m args below meth c s₁ Bd hml0 hP hK
  obtain ⟨rfl, hZ, hh⟩ := hP
  have hx := Bd.exec
  have hby := Bd.bytes
  have hml : c.maxLocals = 1 := hml0
  have hown : s.vm.findClass "com/example/epochcast/epochcast/server/Txn$Type" = some m.cls := findClass_of_methodNamed Bd.named
  have hnm := (name_of_methodNamed Bd.named Bd.method).1
  have X0 : Stand p l e ({ frames := 0, cells := 0, slots := 0, locals := 0 } : Room) s m #[(.ref w_MULTI)] below meth c s₁ [] 0 0 := Stand.of_body Bd
  have e0 : s₁.heap = h0 := by rw [← hh, Bd.state]; rfl
  have N0 := Fr.nil n0
  have pre0 : ∀ t, Steps p.tables e below (s₁.setTop (mkF m 0 #[.val (.ref w_MULTI)] [])) t → Steps p.tables e below (s₁.setTop (entryFrame m #[(.ref w_MULTI)] 1)) t := fun t k => castTop (by first | (simp [entryFrame, mkF, argsToLocals, Value.category]; done) | rfl) k
  obtain ⟨T1, X1, e1, st1⟩ := getF X0 hx hZ hown (host := "") (Or.inl (hw _ (List.mem_of_getElem? (i := 28) rfl))) Via.refl e0 F_code_w_MULTI (g := (mkF m 1 #[.val (.ref w_MULTI)] [(.ref w_MULTI)])) rfl rfl (hb hby d1_1)
  obtain ⟨fs, hr, hrun, hended, hW, hsame⟩ := X1.leave (v := some (.int 14)) (fun h => by rw [Bd.returns] at h; cases h)
  refine ⟨_, _, pre0 _ ?_, hrun, hended, _, _, rfl, ?_, ⟨_, rfl⟩, hW, hsame.mono (by decide) (by decide)⟩
  · show Steps p.tables e below (s₁.setTop (mkF m 0 #[.val (.ref w_MULTI)] [])) _
    refine XS.aloadN X0.here hx rfl (hb hby d1_0) rfl rfl ?_
    show Steps p.tables e below (s₁.setTop (mkF m 1 #[.val (.ref w_MULTI)] [(.ref w_MULTI)])) _
    refine st1 _ ?_
    show Steps p.tables e below (T1.setTop (mkF m 4 #[.val (.ref w_MULTI)] [(.int 14)])) _
    exact retI X1 hx Bd.returns (hb hby d1_4) hr
  · show Q1_w_MULTI Z w_MULTI h0 n0 _ T1.heap _
    rw [e1]
    exact ⟨rfl, N0, rfl⟩
def Q2_w_MULTI (Z : State) (w_MULTI : Addr) (w_CREATE : Addr) (w_DELETE : Addr) (w_SET_DATA : Addr) (w_CHECK : Addr) (h0 : Heap) (n0 : Nat) (v : Option Value) (h : Heap) (L : List Loc) : Prop := v = some (.int 0) ∧ Fr n0 L ∧ h = h0
set_option maxRecDepth 65536 in
set_option maxHeartbeats 40000000 in
theorem rm2_w_MULTI (l : Launch) (Z : State) (a0 : Array Value) (hw : ∀ d ∈ tables_1, d.before a0 Z = true) (ws : List Jvm.Cond) (w_MULTI : Addr) (w_CREATE : Addr) (w_DELETE : Addr) (w_SET_DATA : Addr) (w_CHECK : Addr) (h0 : Heap) (n0 : Nat) (Z0 : n0 ≤ h0.size) (S_CREATE : Sta Z h0 "com/example/epochcast/epochcast/server/Txn$Type" "CREATE" "Lcom/example/epochcast/epochcast/server/Txn$Type;" (.ref w_CREATE)) (n_w_CREATE_w_MULTI : ¬ (w_CREATE = w_MULTI)) (S_DELETE : Sta Z h0 "com/example/epochcast/epochcast/server/Txn$Type" "DELETE" "Lcom/example/epochcast/epochcast/server/Txn$Type;" (.ref w_DELETE)) (n_w_DELETE_w_MULTI : ¬ (w_DELETE = w_MULTI)) (S_SET_DATA : Sta Z h0 "com/example/epochcast/epochcast/server/Txn$Type" "SET_DATA" "Lcom/example/epochcast/epochcast/server/Txn$Type;" (.ref w_SET_DATA)) (n_w_MULTI_w_SET_DATA : ¬ (w_MULTI = w_SET_DATA)) (S_CHECK : Sta Z h0 "com/example/epochcast/epochcast/server/Txn$Type" "CHECK" "Lcom/example/epochcast/epochcast/server/Txn$Type;" (.ref w_CHECK)) (n_w_CHECK_w_MULTI : ¬ (w_CHECK = w_MULTI)) :
    MetFree l (⟨"com/example/epochcast/epochcast/server/Txn$Type", "isOperation", "()Z"⟩ : MethodName) (head1 (Jvm.Cond.code (⟨"com/example/epochcast/epochcast/server/Txn$Type", "isOperation", "()Z"⟩ : MethodName) prog_202_method_6_code 1 (some .boolean) :: ws) ({ frames := 0, cells := 0, slots := 0, locals := 0 } : Room)) (fun a U => a = #[(.ref w_MULTI)] ∧ Z.Warmed39 U.vm ∧ U.heap = h0) (fun _ _ _ _ _ => True) (fun _ U o U' => ∃ v L, o = .returned v ∧ Q2_w_MULTI Z w_MULTI w_CREATE w_DELETE w_SET_DATA w_CHECK h0 n0 v U'.heap L ∧ FrameEnd U o U' L ({ frames := 0, cells := 0, slots := 0, locals := 0 } : Room).cells ({ frames := 0, cells := 0, slots := 0, locals := 0 } : Room).slots) := by
  refine MetFree.of_bodySF (plainFor_of_name pn_2) hisR ?_
  intro p e s m args below meth c s₁ Bd hml0 hP hK
  obtain ⟨rfl, hZ, hh⟩ := hP
  have hx := Bd.exec
  have hby := Bd.bytes
  have hml : c.maxLocals = 1 := hml0
  have hown : s.vm.findClass "com/example/epochcast/epochcast/server/Txn$Type" = some m.cls := findClass_of_methodNamed Bd.named
  have hnm := (name_of_methodNamed Bd.named Bd.method).1
  have X0 : Stand p l e ({ frames := 0, cells := 0, slots := 0, locals := 0 } : Room) s m #[(.ref w_MULTI)] below meth c s₁ [] 0 0 := Stand.of_body Bd
  have e0 : s₁.heap = h0 := by rw [← hh, Bd.state]; rfl
  have N0 := Fr.nil n0
  have pre0 : ∀ t, Steps p.tables e below (s₁.setTop (mkF m 0 #[.val (.ref w_MULTI)] [])) t → Steps p.tables e below (s₁.setTop (entryFrame m #[(.ref w_MULTI)] 1)) t := fun t k => castTop (by first | (simp [entryFrame, mkF, argsToLocals, Value.category]; done) | rfl) k
  obtain ⟨T1, X1, e1, st1⟩ := getS2 X0 hx hZ hown (host := "") (Or.inl (hw _ (List.mem_of_getElem? (i := 35) rfl))) Via.refl e0 S_CREATE (g := (mkF m 1 #[.val (.ref w_MULTI)] [(.ref w_MULTI)])) rfl (hb hby d2_1)
  obtain ⟨T2, X2, e2, st2⟩ := getS2 X1 hx hZ hown (host := "") (Or.inl (hw _ (List.mem_of_getElem? (i := 44) rfl))) Via.refl e1 S_DELETE (g := (mkF m 8 #[.val (.ref w_MULTI)] [(.ref w_MULTI)])) rfl (hb hby d2_8)
  obtain ⟨T3, X3, e3, st3⟩ := getS2 X2 hx hZ hown (host := "") (Or.inl (hw _ (List.mem_of_getElem? (i := 45) rfl))) Via.refl e2 S_SET_DATA (g := (mkF m 15 #[.val (.ref w_MULTI)] [(.ref w_MULTI)])) rfl (hb hby d2_15)
  obtain ⟨T4, X4, e4, st4⟩ := getS2 X3 hx hZ hown (host := "") (Or.inl (hw _ (List.mem_of_getElem? (i := 46) rfl))) Via.refl e3 S_CHECK (g := (mkF m 22 #[.val (.ref w_MULTI)] [(.ref w_MULTI)])) rfl (hb hby d2_22)
  obtain ⟨fs, hr, hrun, hended, hW, hsame⟩ := X4.leave (v := some (.int 0)) (fun h => by rw [Bd.returns] at h; cases h)
  refine ⟨_, _, pre0 _ ?_, hrun, hended, _, _, rfl, ?_, ⟨_, rfl⟩, hW, hsame.mono (by decide) (by decide)⟩
  · show Steps p.tables e below (s₁.setTop (mkF m 0 #[.val (.ref w_MULTI)] [])) _
    refine XS.aloadN X0.here hx rfl (hb hby d2_0) rfl rfl ?_
    show Steps p.tables e below (s₁.setTop (mkF m 1 #[.val (.ref w_MULTI)] [(.ref w_MULTI)])) _
    refine st1 _ ?_
    show Steps p.tables e below (T1.setTop (mkF m 4 #[.val (.ref w_MULTI)] [(.ref w_CREATE), (.ref w_MULTI)])) _
    refine Jvm.RoadKit.acmp (g := (mkF m 4 #[.val (.ref w_MULTI)] [(.ref w_CREATE), (.ref w_MULTI)])) X1 hx rfl rfl rfl (pc0 := 4) (pc' := 7) (same := false) rfl (hb hby d2_4) rfl (decide_eq_false fun q => (Ne.symm n_w_CREATE_w_MULTI) (Value.ref.inj q)) (by decide) (by decide) ?_
    show Steps p.tables e below (T1.setTop (mkF m 7 #[.val (.ref w_MULTI)] [])) _
    refine XS.aloadN X1.here hx rfl (hb hby d2_7) rfl rfl ?_
    show Steps p.tables e below (T1.setTop (mkF m 8 #[.val (.ref w_MULTI)] [(.ref w_MULTI)])) _
    refine st2 _ ?_
    show Steps p.tables e below (T2.setTop (mkF m 11 #[.val (.ref w_MULTI)] [(.ref w_DELETE), (.ref w_MULTI)])) _
    refine Jvm.RoadKit.acmp (g := (mkF m 11 #[.val (.ref w_MULTI)] [(.ref w_DELETE), (.ref w_MULTI)])) X2 hx rfl rfl rfl (pc0 := 11) (pc' := 14) (same := false) rfl (hb hby d2_11) rfl (decide_eq_false fun q => (Ne.symm n_w_DELETE_w_MULTI) (Value.ref.inj q)) (by decide) (by decide) ?_
    show Steps p.tables e below (T2.setTop (mkF m 14 #[.val (.ref w_MULTI)] [])) _
    refine XS.aloadN X2.here hx rfl (hb hby d2_14) rfl rfl ?_
    show Steps p.tables e below (T2.setTop (mkF m 15 #[.val (.ref w_MULTI)] [(.ref w_MULTI)])) _
    refine st3 _ ?_
    show Steps p.tables e below (T3.setTop (mkF m 18 #[.val (.ref w_MULTI)] [(.ref w_SET_DATA), (.ref w_MULTI)])) _
    refine Jvm.RoadKit.acmp (g := (mkF m 18 #[.val (.ref w_MULTI)] [(.ref w_SET_DATA), (.ref w_MULTI)])) X3 hx rfl rfl rfl (pc0 := 18) (pc' := 21) (same := false) rfl (hb hby d2_18) rfl (decide_eq_false fun q => n_w_MULTI_w_SET_DATA (Value.ref.inj q)) (by decide) (by decide) ?_
    show Steps p.tables e below (T3.setTop (mkF m 21 #[.val (.ref w_MULTI)] [])) _
    refine XS.aloadN X3.here hx rfl (hb hby d2_21) rfl rfl ?_
    show Steps p.tables e below (T3.setTop (mkF m 22 #[.val (.ref w_MULTI)] [(.ref w_MULTI)])) _
    refine st4 _ ?_
    show Steps p.tables e below (T4.setTop (mkF m 25 #[.val (.ref w_MULTI)] [(.ref w_CHECK), (.ref w_MULTI)])) _
    refine Jvm.RoadKit.acmp (g := (mkF m 25 #[.val (.ref w_MULTI)] [(.ref w_CHECK), (.ref w_MULTI)])) X4 hx rfl rfl rfl (pc0 := 25) (pc' := 32) (same := false) rfl (hb hby d2_25) rfl (decide_eq_false fun q => (Ne.symm n_w_CHECK_w_MULTI) (Value.ref.inj q)) (by decide) (by decide) ?_
    show Steps p.tables e below (T4.setTop (mkF m 32 #[.val (.ref w_MULTI)] [])) _
    refine XS.iconst X4.here hx rfl (hb hby d2_32) ?_
    show Steps p.tables e below (T4.setTop (mkF m 33 #[.val (.ref w_MULTI)] [(.int 0)])) _
    exact retN X4 hx (t := .boolean) Bd.returns (by simp) (hb hby d2_33) hr
  · show Q2_w_MULTI Z w_MULTI w_CREATE w_DELETE w_SET_DATA w_CHECK h0 n0 _ T4.heap _
    rw [e4]
    exact ⟨rfl, N0, rfl⟩
set_option maxRecDepth 65536 in
set_option maxHeartbeats 40000000 in
theorem pc0_k5 {p : Program} {l : Launch} {e : Env} {s : State} {m : MethodId} {args : Array Value} {below : List Frame} {meth : Method} {c : Code} {T0 : State} {locs : List Loc} {Z : State} {a0 : Array Value} {h0 : Heap} {n0 : Nat} (p1 : Int32) (b1 : Addr) (k1 : ClassId) (w_CREATE : Addr) (w_DELETE : Addr) (w_SET_DATA : Addr) (w_SET_ACL : Addr) (w_CHECK : Addr) (w_MULTI : Addr) (w_CREATE_SESSION : Addr) (w_CLOSE_SESSION : Addr) (w_AUTH : Addr)
    (X0 : Stand p l e room_1 s m args below meth c T0 locs 1 9) (hx : p.tables.exec = Jvm.exec) (hZ : Z.Warmed39 s.vm) (hw : ∀ d ∈ tables_1, d.before a0 Z = true) (hby : c.code = code) (hml : c.maxLocals = 7) (hown : s.vm.findClass "com/example/epochcast/epochcast/server/TypeIsOperationPinLaw" = some m.cls) (e0 : T0.heap = h0) (Z0 : n0 ≤ h0.size) (N0 : Fr n0 locs) (hk : ((p1 &&& (2147483647 : Int32)) % (9 : Int32)) = (5 : Int32)) (V_b1 : Arv Z h0 b1 k1 (.object "com/example/epochcast/epochcast/server/Txn$Type") (9 : Int32) [(.ref w_CREATE), (.ref w_DELETE), (.ref w_SET_DATA), (.ref w_SET_ACL), (.ref w_CHECK), (.ref w_MULTI), (.ref w_CREATE_SESSION), (.ref w_CLOSE_SESSION), (.ref w_AUTH)] .null) (F_code_w_MULTI : Fld Z h0 w_MULTI "com/example/epochcast/epochcast/server/Txn$Type" "code" "I" (.int 14)) (E_w_MULTI : Exa Z h0 w_MULTI "com/example/epochcast/epochcast/server/Txn$Type") (S_CREATE : Sta Z h0 "com/example/epochcast/epochcast/server/Txn$Type" "CREATE" "Lcom/example/epochcast/epochcast/server/Txn$Type;" (.ref w_CREATE)) (n_w_CREATE_w_MULTI : ¬ (w_CREATE = w_MULTI)) (S_DELETE : Sta Z h0 "com/example/epochcast/epochcast/server/Txn$Type" "DELETE" "Lcom/example/epochcast/epochcast/server/Txn$Type;" (.ref w_DELETE)) (n_w_DELETE_w_MULTI : ¬ (w_DELETE = w_MULTI)) (S_SET_DATA : Sta Z h0 "com/example/epochcast/epochcast/server/Txn$Type" "SET_DATA" "Lcom/example/epochcast/epochcast/server/Txn$Type;" (.ref w_SET_DATA)) (n_w_MULTI_w_SET_DATA : ¬ (w_MULTI = w_SET_DATA)) (S_CHECK : Sta Z h0 "com/example/epochcast/epochcast/server/Txn$Type" "CHECK" "Lcom/example/epochcast/epochcast/server/Txn$Type;" (.ref w_CHECK)) (n_w_CHECK_w_MULTI : ¬ (w_CHECK = w_MULTI)) :
    ∃ (T' : State) (L' : List Loc) (Ls : Array Slot), Stand p l e room_1 s m args below meth c T' L' 1 9 ∧ Fr n0 L' ∧ ∀ target, Steps p.tables e below (T'.setTop (mkF m 143 Ls [(.int 1)])) target → Steps p.tables e below (T0.setTop (mkF m 63 #[.val (.int p1), .val (.ref b1), .unset, .unset, .unset, .unset, .unset] [])) target := by
  obtain ⟨cq1, kq1, q1a, q1b, q1c⟩ := isOf hZ e0 E_w_MULTI
  obtain ⟨_, _, ⟨T1, L1, k1, n1⟩, -, X1, ⟨Lc1, hQ1, l1, y1, z1⟩, st1⟩ := X0.virtualBack hx (y := (⟨"com/example/epochcast/epochcast/server/Txn$Type", "code", "()I"⟩ : MethodName)) (z := (⟨"com/example/epochcast/epochcast/server/Txn$Type", "code", "()I"⟩ : MethodName)) hown (mvT hZ (hw _ (List.mem_of_getElem? (i := 23) rfl))) (mvT hZ (hw _ (List.mem_of_getElem? (i := 24) rfl))) (notFace_of_selects (args := #[]) (mvT hZ (hw _ (List.mem_of_getElem? (i := 26) rfl)))) (mvT hZ (hw _ (List.mem_of_getElem? (i := 26) rfl))) (mvT hZ (hw _ (List.mem_of_getElem? (i := 25) rfl))) (by decide) (backOf (W := 0) (rm1_w_MULTI l Z a0 hw [] w_MULTI h0 n0 Z0 F_code_w_MULTI) hZ (hw _ (List.mem_of_getElem? (i := 27) rfl)) (hw _ (List.mem_of_getElem? (i := 3) rfl)) (by decide) (by decide)) q1a q1c (g := (mkF m 76 #[.val (.int p1), .val (.ref b1), .val (.int 5), .val (.ref w_MULTI), .unset, .unset, .unset] [(.ref w_MULTI)])) rfl (by rw [hml]; rfl) (Steps.refl _) (argsL := []) (rest := []) (lenOf pd___I rfl) rfl (by show 2 * 0 + _ ≤ _; exact Nat.le_of_eq rfl) (hb hby at_76) (fun _ _ => ⟨rfl, e0, (by decide : 1 + 0 ≤ _), (by decide : 9 + 0 ≤ _)⟩)
  dsimp only [Pt.U, Pt.locs, Pt.cells, Pt.slots] at X1 l1 y1 z1 st1 hQ1
  subst l1 y1 z1
  obtain ⟨rfl, N1q, e1⟩ := hQ1
  have N1 := Fr.app N0 N1q
  obtain ⟨cq2, kq2, q2a, q2b, q2c⟩ := isOf hZ e1 E_w_MULTI
  obtain ⟨_, _, ⟨T2, L2, k2, n2⟩, -, X2, ⟨Lc2, hQ2, l2, y2, z2⟩, st2⟩ := X1.virtualBack hx (y := (⟨"com/example/epochcast/epochcast/server/Txn$Type", "isOperation", "()Z"⟩ : MethodName)) (z := (⟨"com/example/epochcast/epochcast/server/Txn$Type", "isOperation", "()Z"⟩ : MethodName)) hown (mvT hZ (hw _ (List.mem_of_getElem? (i := 30) rfl))) (mvT hZ (hw _ (List.mem_of_getElem? (i := 31) rfl))) (notFace_of_selects (args := #[]) (mvT hZ (hw _ (List.mem_of_getElem? (i := 33) rfl)))) (mvT hZ (hw _ (List.mem_of_getElem? (i := 33) rfl))) (mvT hZ (hw _ (List.mem_of_getElem? (i := 32) rfl))) (by decide) (backOf (W := 0) (rm2_w_MULTI l Z a0 hw [] w_MULTI w_CREATE w_DELETE w_SET_DATA w_CHECK h0 n0 Z0 S_CREATE n_w_CREATE_w_MULTI S_DELETE n_w_DELETE_w_MULTI S_SET_DATA n_w_MULTI_w_SET_DATA S_CHECK n_w_CHECK_w_MULTI) hZ (hw _ (List.mem_of_getElem? (i := 34) rfl)) (hw _ (List.mem_of_getElem? (i := 3) rfl)) (by decide) (by decide)) q2a q2c (g := (mkF m 114 #[.val (.int p1), .val (.ref b1), .val (.int 5), .val (.ref w_MULTI), .val (.int 14), .val (.int 0), .unset] [(.ref w_MULTI)])) rfl (by rw [hml]; rfl) (Steps.refl _) (argsL := []) (rest := []) (lenOf pd___Z rfl) rfl (by show 2 * 0 + _ ≤ _; exact Nat.le_of_eq rfl) (hb hby at_114) (fun _ _ => ⟨rfl, e1, (by decide : 1 + 0 ≤ _), (by decide : 9 + 0 ≤ _)⟩)
  dsimp only [Pt.U, Pt.locs, Pt.cells, Pt.slots] at X2 l2 y2 z2 st2 hQ2
  subst l2 y2 z2
  obtain ⟨rfl, N2q, e2⟩ := hQ2
  have N2 := Fr.app N1 N2q
  refine ⟨T2, _, #[.val (.int p1), .val (.ref b1), .val (.int 5), .val (.ref w_MULTI), .val (.int 14), .val (.int 0), .val (.int 0)], X2, N2, fun target kt => ?_⟩
  show Steps p.tables e below (T0.setTop (mkF m 63 #[.val (.int p1), .val (.ref b1), .unset, .unset, .unset, .unset, .unset] [])) _
  refine XS.iloadN X0.here hx rfl (hb hby at_63) rfl ?_
  show Steps p.tables e below (T0.setTop (mkF m 64 #[.val (.int p1), .val (.ref b1), .unset, .unset, .unset, .unset, .unset] [(.int p1)])) _
  refine X0.ldcInt hx hown (mvT hZ (hw _ (List.mem_of_getElem? (i := 22) rfl))) (g := (mkF m 64 #[.val (.int p1), .val (.ref b1), .unset, .unset, .unset, .unset, .unset] [(.int p1)])) rfl (hb hby at_64) _ ?_
  show Steps p.tables e below (T0.setTop (mkF m 66 #[.val (.int p1), .val (.ref b1), .unset, .unset, .unset, .unset, .unset] [(.int 2147483647), (.int p1)])) _
  refine XS.iand X0.here hx rfl (hb hby at_66) rfl ?_
  show Steps p.tables e below (T0.setTop (mkF m 67 #[.val (.int p1), .val (.ref b1), .unset, .unset, .unset, .unset, .unset] [(.int (p1 &&& (2147483647 : Int32)))])) _
  refine XS.bipush X0.here hx rfl (hb hby at_67) ?_
  show Steps p.tables e below (T0.setTop (mkF m 69 #[.val (.int p1), .val (.ref b1), .unset, .unset, .unset, .unset, .unset] [(.int 9), (.int (p1 &&& (2147483647 : Int32)))])) _
  refine iremM X0 hx rfl (hb hby at_69) rfl (by decide) ?_
  show Steps p.tables e below (T0.setTop (mkF m 70 #[.val (.int p1), .val (.ref b1), .unset, .unset, .unset, .unset, .unset] [(.int ((p1 &&& (2147483647 : Int32)) % (9 : Int32)))])) _
  rw [hk]
  show Steps p.tables e below (T0.setTop (mkF m 70 #[.val (.int p1), .val (.ref b1), .unset, .unset, .unset, .unset, .unset] [(.int 5)])) _
  refine XS.istoreN X0.here hx rfl (hb hby at_70) rfl (l' := #[.val (.int p1), .val (.ref b1), .val (.int 5), .unset, .unset, .unset, .unset]) rfl ?_
  show Steps p.tables e below (T0.setTop (mkF m 71 #[.val (.int p1), .val (.ref b1), .val (.int 5), .unset, .unset, .unset, .unset] [])) _
  refine XS.aloadN X0.here hx rfl (hb hby at_71) rfl rfl ?_
  show Steps p.tables e below (T0.setTop (mkF m 72 #[.val (.int p1), .val (.ref b1), .val (.int 5), .unset, .unset, .unset, .unset] [(.ref b1)])) _
  refine XS.iloadN X0.here hx rfl (hb hby at_72) rfl ?_
  show Steps p.tables e below (T0.setTop (mkF m 73 #[.val (.int p1), .val (.ref b1), .val (.int 5), .unset, .unset, .unset, .unset] [(.int 5), (.ref b1)])) _
  refine own_ldR X0 hx hZ e0 V_b1 (j := (5 : Int32)) ⟨by decide, by decide⟩ rfl (g := (mkF m 73 #[.val (.int p1), .val (.ref b1), .val (.int 5), .unset, .unset, .unset, .unset] [(.int 5), (.ref b1)])) rfl rfl (hb hby at_73) _ ?_
  show Steps p.tables e below (T0.setTop (mkF m 74 #[.val (.int p1), .val (.ref b1), .val (.int 5), .unset, .unset, .unset, .unset] [(.ref w_MULTI)])) _
  refine XS.astoreN X0.here hx rfl (hb hby at_74) rfl rfl (l' := #[.val (.int p1), .val (.ref b1), .val (.int 5), .val (.ref w_MULTI), .unset, .unset, .unset]) rfl ?_
  show Steps p.tables e below (T0.setTop (mkF m 75 #[.val (.int p1), .val (.ref b1), .val (.int 5), .val (.ref w_MULTI), .unset, .unset, .unset] [])) _
  refine XS.aloadN X0.here hx rfl (hb hby at_75) rfl rfl ?_
  show Steps p.tables e below (T0.setTop (mkF m 76 #[.val (.int p1), .val (.ref b1), .val (.int 5), .val (.ref w_MULTI), .unset, .unset, .unset] [(.ref w_MULTI)])) _
  refine st1.trans ?_
  show Steps p.tables e below (T1.setTop (mkF m 79 #[.val (.int p1), .val (.ref b1), .val (.int 5), .val (.ref w_MULTI), .unset, .unset, .unset] [(.int 14)])) _
  refine XS.istore X1.here hx rfl (hb hby at_79) rfl (l' := #[.val (.int p1), .val (.ref b1), .val (.int 5), .val (.ref w_MULTI), .val (.int 14), .unset, .unset]) rfl ?_
  show Steps p.tables e below (T1.setTop (mkF m 81 #[.val (.int p1), .val (.ref b1), .val (.int 5), .val (.ref w_MULTI), .val (.int 14), .unset, .unset] [])) _
  refine XS.iload X1.here hx rfl (hb hby at_81) rfl ?_
  show Steps p.tables e below (T1.setTop (mkF m 83 #[.val (.int p1), .val (.ref b1), .val (.int 5), .val (.ref w_MULTI), .val (.int 14), .unset, .unset] [(.int 14)])) _
  refine XS.iconst X1.here hx rfl (hb hby at_83) ?_
  show Steps p.tables e below (T1.setTop (mkF m 84 #[.val (.int p1), .val (.ref b1), .val (.int 5), .val (.ref w_MULTI), .val (.int 14), .unset, .unset] [(.int 1), (.int 14)])) _
  refine XS.icmpNo X1.here hx rfl (hb hby at_84) rfl (feq (by decide : ¬ ((14 : Int32) = (1 : Int32)))).1 ?_
  show Steps p.tables e below (T1.setTop (mkF m 87 #[.val (.int p1), .val (.ref b1), .val (.int 5), .val (.ref w_MULTI), .val (.int 14), .unset, .unset] [])) _
  refine XS.iload X1.here hx rfl (hb hby at_87) rfl ?_
  show Steps p.tables e below (T1.setTop (mkF m 89 #[.val (.int p1), .val (.ref b1), .val (.int 5), .val (.ref w_MULTI), .val (.int 14), .unset, .unset] [(.int 14)])) _
  refine XS.iconst X1.here hx rfl (hb hby at_89) ?_
  show Steps p.tables e below (T1.setTop (mkF m 90 #[.val (.int p1), .val (.ref b1), .val (.int 5), .val (.ref w_MULTI), .val (.int 14), .unset, .unset] [(.int 2), (.int 14)])) _
  refine XS.icmpNo X1.here hx rfl (hb hby at_90) rfl (feq (by decide : ¬ ((14 : Int32) = (2 : Int32)))).1 ?_
  show Steps p.tables e below (T1.setTop (mkF m 93 #[.val (.int p1), .val (.ref b1), .val (.int 5), .val (.ref w_MULTI), .val (.int 14), .unset, .unset] [])) _
  refine XS.iload X1.here hx rfl (hb hby at_93) rfl ?_
  show Steps p.tables e below (T1.setTop (mkF m 95 #[.val (.int p1), .val (.ref b1), .val (.int 5), .val (.ref w_MULTI), .val (.int 14), .unset, .unset] [(.int 14)])) _
  refine XS.iconst X1.here hx rfl (hb hby at_95) ?_
  show Steps p.tables e below (T1.setTop (mkF m 96 #[.val (.int p1), .val (.ref b1), .val (.int 5), .val (.ref w_MULTI), .val (.int 14), .unset, .unset] [(.int 5), (.int 14)])) _
  refine XS.icmpNo X1.here hx rfl (hb hby at_96) rfl (feq (by decide : ¬ ((14 : Int32) = (5 : Int32)))).1 ?_
  show Steps p.tables e below (T1.setTop (mkF m 99 #[.val (.int p1), .val (.ref b1), .val (.int 5), .val (.ref w_MULTI), .val (.int 14), .unset, .unset] [])) _
  refine XS.iload X1.here hx rfl (hb hby at_99) rfl ?_
  show Steps p.tables e below (T1.setTop (mkF m 101 #[.val (.int p1), .val (.ref b1), .val (.int 5), .val (.ref w_MULTI), .val (.int 14), .unset, .unset] [(.int 14)])) _
  refine XS.bipush X1.here hx rfl (hb hby at_101) ?_
  show Steps p.tables e below (T1.setTop (mkF m 103 #[.val (.int p1), .val (.ref b1), .val (.int 5), .val (.ref w_MULTI), .val (.int 14), .unset, .unset] [(.int 13), (.int 14)])) _
  refine XS.icmpYes X1.here hx rfl (pc0 := 103) (pc' := 110) rfl (hb hby at_103) rfl (feq (by decide : ¬ ((14 : Int32) = (13 : Int32)))).2 (by decide) (by decide) ?_
  show Steps p.tables e below (T1.setTop (mkF m 110 #[.val (.int p1), .val (.ref b1), .val (.int 5), .val (.ref w_MULTI), .val (.int 14), .unset, .unset] [])) _
  refine XS.iconst X1.here hx rfl (hb hby at_110) ?_
  show Steps p.tables e below (T1.setTop (mkF m 111 #[.val (.int p1), .val (.ref b1), .val (.int 5), .val (.ref w_MULTI), .val (.int 14), .unset, .unset] [(.int 0)])) _
  refine XS.istore X1.here hx rfl (hb hby at_111) rfl (l' := #[.val (.int p1), .val (.ref b1), .val (.int 5), .val (.ref w_MULTI), .val (.int 14), .val (.int 0), .unset]) rfl ?_
  show Steps p.tables e below (T1.setTop (mkF m 113 #[.val (.int p1), .val (.ref b1), .val (.int 5), .val (.ref w_MULTI), .val (.int 14), .val (.int 0), .unset] [])) _
  refine XS.aloadN X1.here hx rfl (hb hby at_113) rfl rfl ?_
  show Steps p.tables e below (T1.setTop (mkF m 114 #[.val (.int p1), .val (.ref b1), .val (.int 5), .val (.ref w_MULTI), .val (.int 14), .val (.int 0), .unset] [(.ref w_MULTI)])) _
  refine st2.trans ?_
  show Steps p.tables e below (T2.setTop (mkF m 117 #[.val (.int p1), .val (.ref b1), .val (.int 5), .val (.ref w_MULTI), .val (.int 14), .val (.int 0), .unset] [(.int 0)])) _
  refine XS.istore X2.here hx rfl (hb hby at_117) rfl (l' := #[.val (.int p1), .val (.ref b1), .val (.int 5), .val (.ref w_MULTI), .val (.int 14), .val (.int 0), .val (.int 0)]) rfl ?_
  show Steps p.tables e below (T2.setTop (mkF m 119 #[.val (.int p1), .val (.ref b1), .val (.int 5), .val (.ref w_MULTI), .val (.int 14), .val (.int 0), .val (.int 0)] [])) _
  refine XS.iload X2.here hx rfl (hb hby at_119) rfl ?_
  show Steps p.tables e below (T2.setTop (mkF m 121 #[.val (.int p1), .val (.ref b1), .val (.int 5), .val (.ref w_MULTI), .val (.int 14), .val (.int 0), .val (.int 0)] [(.int 0)])) _
  refine XS.iload X2.here hx rfl (hb hby at_121) rfl ?_
  show Steps p.tables e below (T2.setTop (mkF m 123 #[.val (.int p1), .val (.ref b1), .val (.int 5), .val (.ref w_MULTI), .val (.int 14), .val (.int 0), .val (.int 0)] [(.int 0), (.int 0)])) _
  refine XS.icmpYes X2.here hx rfl (pc0 := 123) (pc' := 128) rfl (hb hby at_123) rfl (teq (by decide : (0 : Int32) = (0 : Int32))).1 (by decide) (by decide) ?_
  show Steps p.tables e below (T2.setTop (mkF m 128 #[.val (.int p1), .val (.ref b1), .val (.int 5), .val (.ref w_MULTI), .val (.int 14), .val (.int 0), .val (.int 0)] [])) _
  refine XS.iload X2.here hx rfl (hb hby at_128) rfl ?_
  show Steps p.tables e below (T2.setTop (mkF m 130 #[.val (.int p1), .val (.ref b1), .val (.int 5), .val (.ref w_MULTI), .val (.int 14), .val (.int 0), .val (.int 0)] [(.int 0)])) _
  refine XS.ifYes X2.here hx rfl (pc0 := 130) (pc' := 142) rfl (hb hby at_130) rfl ((if0 _ _).trans (teq (by decide : (0 : Int32) = (0 : Int32))).1) (by decide) (by decide) ?_
  show Steps p.tables e below (T2.setTop (mkF m 142 #[.val (.int p1), .val (.ref b1), .val (.int 5), .val (.ref w_MULTI), .val (.int 14), .val (.int 0), .val (.int 0)] [])) _
  refine XS.iconst X2.here hx rfl (hb hby at_142) ?_
  show Steps p.tables e below (T2.setTop (mkF m 143 #[.val (.int p1), .val (.ref b1), .val (.int 5), .val (.ref w_MULTI), .val (.int 14), .val (.int 0), .val (.int 0)] [(.int 1)])) _
  exact kt
def Q1_w_CREATE_SESSION (Z : State) (w_CREATE_SESSION : Addr) (h0 : Heap) (n0 : Nat) (v : Option Value) (h : Heap) (L : List Loc) : Prop := v = some (.int (-10)) ∧ Fr n0 L ∧ h = h0
set_option maxRecDepth 65536 in
set_option maxHeartbeats 40000000 in
theorem rm1_w_CREATE_SESSION (l : Launch) (Z : State) (a0 : Array Value) (hw : ∀ d ∈ tables_1, d.before a0 Z = true) (ws : List Jvm.Cond) (w_CREATE_SESSION : Addr) (h0 : Heap) (n0 : Nat) (Z0 : n0 ≤ h0.size) (F_code_w_CREATE_SESSION : Fld Z h0 w_CREATE_SESSION "com/example/epochcast/epochcast/server/Txn$Type" "code" "I" (.int (-10))) :
    MetFree l (⟨"com/example/epochcast/epochcast/server/Txn$Type", "code", "()I"⟩ : MethodName) (head1 (Jvm.Cond.code (⟨"com/example/epochcast/epochcast/server/Txn$Type", "code", "()I"⟩ : MethodName) prog_202_method_4_code 1 (some .int) :: ws) ({ frames := 0, cells := 0, slots := 0, locals := 0 } : Room)) (fun a U => a = #[(.ref w_CREATE_SESSION)] ∧ Z.Warmed39 U.vm ∧ U.heap = h0) (fun _ _ _ _ _ => True) (fun _ U o U' => ∃ v L, o = .returned v ∧ Q1_w_CREATE_SESSION Z w_CREATE_SESSION h0 n0 v U'.heap L ∧ FrameEnd U o U' L ({ frames := 0, cells := 0, slots := 0, locals := 0 } : Room).cells ({ frames := 0, cells := 0, slots := 0, locals := 0 } : Room).slots) := by
  refine MetFree.of_bodySF (plainFor_of_name pn_1) hisR ?_
  intro p e s m args below meth c s₁ Bd hml0 hP hK
  obtain ⟨rfl, hZ, hh⟩ := hP
  have hx := Bd.exec
  have hby := Bd.bytes
  have hml : c.maxLocals = 1 := hml0
  have hown : s.vm.findClass "com/example/epochcast/epochcast/server/Txn$Type" = some m.cls := findClass_of_methodNamed Bd.named
  have hnm := (name_of_methodNamed Bd.named Bd.method).1
  have X0 : Stand p l e ({ frames := 0, cells := 0, slots := 0, locals := 0 } : Room) s m #[(.ref w_CREATE_SESSION)] below meth c s₁ [] 0 0 := Stand.of_body Bd
  have e0 : s₁.heap = h0 := by rw [← hh, Bd.state]; rfl
  have N0 := Fr.nil n0
  have pre0 : ∀ t, Steps p.tables e below (s₁.setTop (mkF m 0 #[.val (.ref w_CREATE_SESSION)] [])) t → Steps p.tables e below (s₁.setTop (entryFrame m #[(.ref w_CREATE_SESSION)] 1)) t := fun t k => castTop (by first | (simp [entryFrame, mkF, argsToLocals, Value.category]; done) | rfl) k
  obtain ⟨T1, X1, e1, st1⟩ := getF X0 hx hZ hown (host := "") (Or.inl (hw _ (List.mem_of_getElem? (i := 28) rfl))) Via.refl e0 F_code_w_CREATE_SESSION (g := (mkF m 1 #[.val (.ref w_CREATE_SESSION)] [(.ref w_CREATE_SESSION)])) rfl rfl (hb hby d1_1)
  obtain ⟨fs, hr, hrun, hended, hW, hsame⟩ := X1.leave (v := some (.int (-10))) (fun h => by rw [Bd.returns] at h; cases h)
  refine ⟨_, _, pre0 _ ?_, hrun, hended, _, _, rfl, ?_, ⟨_, rfl⟩, hW, hsame.mono (by decide) (by decide)⟩
  · show Steps p.tables e below (s₁.setTop (mkF m 0 #[.val (.ref w_CREATE_SESSION)] [])) _
    refine XS.aloadN X0.here hx rfl (hb hby d1_0) rfl rfl ?_
    show Steps p.tables e below (s₁.setTop (mkF m 1 #[.val (.ref w_CREATE_SESSION)] [(.ref w_CREATE_SESSION)])) _
    refine st1 _ ?_
    show Steps p.tables e below (T1.setTop (mkF m 4 #[.val (.ref w_CREATE_SESSION)] [(.int (-10))])) _
    exact retI X1 hx Bd.returns (hb hby d1_4) hr
  · show Q1_w_CREATE_SESSION Z w_CREATE_SESSION h0 n0 _ T1.heap _
    rw [e1]
    exact ⟨rfl, N0, rfl⟩
def Q2_w_CREATE_SESSION (Z : State) (w_CREATE_SESSION : Addr) (w_CREATE : Addr) (w_DELETE : Addr) (w_SET_DATA : Addr) (w_CHECK : Addr) (h0 : Heap) (n0 : Nat) (v : Option Value) (h : Heap) (L : List Loc) : Prop := v = some (.int 0) ∧ Fr n0 L ∧ h = h0
set_option maxRecDepth 65536 in
set_option maxHeartbeats 40000000 in
theorem rm2_w_CREATE_SESSION (l : Launch) (Z : State) (a0 : Array Value) (hw : ∀ d ∈ tables_1, d.before a0 Z = true) (ws : List Jvm.Cond) (w_CREATE_SESSION : Addr) (w_CREATE : Addr) (w_DELETE : Addr) (w_SET_DATA : Addr) (w_CHECK : Addr) (h0 : Heap) (n0 : Nat) (Z0 : n0 ≤ h0.size) (S_CREATE : Sta Z h0 "com/example/epochcast/epochcast/server/Txn$Type" "CREATE" "Lcom/example/epochcast/epochcast/server/Txn$Type;" (.ref w_CREATE)) (n_w_CREATE_w_CREATE_SESSION : ¬ (w_CREATE = w_CREATE_SESSION)) (S_DELETE : Sta Z h0 "com/example/epochcast/epochcast/server/Txn$Type" "DELETE" "Lcom/example/epochcast/epochcast/server/Txn$Type;" (.ref w_DELETE)) (n_w_CREATE_SESSION_w_DELETE : ¬ (w_CREATE_SESSION = w_DELETE)) (S_SET_DATA : Sta Z h0 "com/example/epochcast/epochcast/server/Txn$Type" "SET_DATA" "Lcom/example/epochcast/epochcast/server/Txn$Type;" (.ref w_SET_DATA)) (n_w_CREATE_SESSION_w_SET_DATA : ¬ (w_CREATE_SESSION = w_SET_DATA)) (S_CHECK : Sta Z h0 "com/example/epochcast/epochcast/server/Txn$Type" "CHECK" "Lcom/example/epochcast/epochcast/server/Txn$Type;" (.ref w_CHECK)) (n_w_CHECK_w_CREATE_SESSION : ¬ (w_CHECK = w_CREATE_SESSION)) :
    MetFree l (⟨"com/example/epochcast/epochcast/server/Txn$Type", "isOperation", "()Z"⟩ : MethodName) (head1 (Jvm.Cond.code (⟨"com/example/epochcast/epochcast/server/Txn$Type", "isOperation", "()Z"⟩ : MethodName) prog_202_method_6_code 1 (some .boolean) :: ws) ({ frames := 0, cells := 0, slots := 0, locals := 0 } : Room)) (fun a U => a = #[(.ref w_CREATE_SESSION)] ∧ Z.Warmed39 U.vm ∧ U.heap = h0) (fun _ _ _ _ _ => True) (fun _ U o U' => ∃ v L, o = .returned v ∧ Q2_w_CREATE_SESSION Z w_CREATE_SESSION w_CREATE w_DELETE w_SET_DATA w_CHECK h0 n0 v U'.heap L ∧ FrameEnd U o U' L ({ frames := 0, cells := 0, slots := 0, locals := 0 } : Room).cells ({ frames := 0, cells := 0, slots := 0, locals := 0 } : Room).slots) := by
  refine MetFree.of_bodySF (plainFor_of_name pn_2) hisR ?_
  intro p e s m args below meth c s₁ Bd hml0 hP hK
  obtain ⟨rfl, hZ, hh⟩ := hP
  have hx := Bd.exec
  have hby := Bd.bytes
  have hml : c.maxLocals = 1 := hml0
  have hown : s.vm.findClass "com/example/epochcast/epochcast/server/Txn$Type" = some m.cls := findClass_of_methodNamed Bd.named
  have hnm := (name_of_methodNamed Bd.named Bd.method).1
  have X0 : Stand p l e ({ frames := 0, cells := 0, slots := 0, locals := 0 } : Room) s m #[(.ref w_CREATE_SESSION)] below meth c s₁ [] 0 0 := Stand.of_body Bd
  have e0 : s₁.heap = h0 := by rw [← hh, Bd.state]; rfl
  have N0 := Fr.nil n0
  have pre0 : ∀ t, Steps p.tables e below (s₁.setTop (mkF m 0 #[.val (.ref w_CREATE_SESSION)] [])) t → Steps p.tables e below (s₁.setTop (entryFrame m #[(.ref w_CREATE_SESSION)] 1)) t := fun t k => castTop (by first | (simp [entryFrame, mkF, argsToLocals, Value.category]; done) | rfl) k
  obtain ⟨T1, X1, e1, st1⟩ := getS2 X0 hx hZ hown (host := "") (Or.inl (hw _ (List.mem_of_getElem? (i := 35) rfl))) Via.refl e0 S_CREATE (g := (mkF m 1 #[.val (.ref w_CREATE_SESSION)] [(.ref w_CREATE_SESSION)])) rfl (hb hby d2_1)
  obtain ⟨T2, X2, e2, st2⟩ := getS2 X1 hx hZ hown (host := "") (Or.inl (hw _ (List.mem_of_getElem? (i := 44) rfl))) Via.refl e1 S_DELETE (g := (mkF m 8 #[.val (.ref w_CREATE_SESSION)] [(.ref w_CREATE_SESSION)])) rfl (hb hby d2_8)
  obtain ⟨T3, X3, e3, st3⟩ := getS2 X2 hx hZ hown (host := "") (Or.inl (hw _ (List.mem_of_getElem? (i := 45) rfl))) Via.refl e2 S_SET_DATA (g := (mkF m 15 #[.val (.ref w_CREATE_SESSION)] [(.ref w_CREATE_SESSION)])) rfl (hb hby d2_15)
  obtain ⟨T4, X4, e4, st4⟩ := getS2 X3 hx hZ hown (host := "") (Or.inl (hw _ (List.mem_of_getElem? (i := 46) rfl))) Via.refl e3 S_CHECK (g := (mkF m 22 #[.val (.ref w_CREATE_SESSION)] [(.ref w_CREATE_SESSION)])) rfl (hb hby d2_22)
  obtain ⟨fs, hr, hrun, hended, hW, hsame⟩ := X4.leave (v := some (.int 0)) (fun h => by rw [Bd.returns] at h; cases h)
  refine ⟨_, _, pre0 _ ?_, hrun, hended, _, _, rfl, ?_, ⟨_, rfl⟩, hW, hsame.mono (by decide) (by decide)⟩
  · show Steps p.tables e below (s₁.setTop (mkF m 0 #[.val (.ref w_CREATE_SESSION)] [])) _
    refine XS.aloadN X0.here hx rfl (hb hby d2_0) rfl rfl ?_
    show Steps p.tables e below (s₁.setTop (mkF m 1 #[.val (.ref w_CREATE_SESSION)] [(.ref w_CREATE_SESSION)])) _
    refine st1 _ ?_
    show Steps p.tables e below (T1.setTop (mkF m 4 #[.val (.ref w_CREATE_SESSION)] [(.ref w_CREATE), (.ref w_CREATE_SESSION)])) _
    refine Jvm.RoadKit.acmp (g := (mkF m 4 #[.val (.ref w_CREATE_SESSION)] [(.ref w_CREATE), (.ref w_CREATE_SESSION)])) X1 hx rfl rfl rfl (pc0 := 4) (pc' := 7) (same := false) rfl (hb hby d2_4) rfl (decide_eq_false fun q => (Ne.symm n_w_CREATE_w_CREATE_SESSION) (Value.ref.inj q)) (by decide) (by decide) ?_
    show Steps p.tables e below (T1.setTop (mkF m 7 #[.val (.ref w_CREATE_SESSION)] [])) _
    refine XS.aloadN X1.here hx rfl (hb hby d2_7) rfl rfl ?_
    show Steps p.tables e below (T1.setTop (mkF m 8 #[.val (.ref w_CREATE_SESSION)] [(.ref w_CREATE_SESSION)])) _
    refine st2 _ ?_
    show Steps p.tables e below (T2.setTop (mkF m 11 #[.val (.ref w_CREATE_SESSION)] [(.ref w_DELETE), (.ref w_CREATE_SESSION)])) _
    refine Jvm.RoadKit.acmp (g := (mkF m 11 #[.val (.ref w_CREATE_SESSION)] [(.ref w_DELETE), (.ref w_CREATE_SESSION)])) X2 hx rfl rfl rfl (pc0 := 11) (pc' := 14) (same := false) rfl (hb hby d2_11) rfl (decide_eq_false fun q => n_w_CREATE_SESSION_w_DELETE (Value.ref.inj q)) (by decide) (by decide) ?_
    show Steps p.tables e below (T2.setTop (mkF m 14 #[.val (.ref w_CREATE_SESSION)] [])) _
    refine XS.aloadN X2.here hx rfl (hb hby d2_14) rfl rfl ?_
    show Steps p.tables e below (T2.setTop (mkF m 15 #[.val (.ref w_CREATE_SESSION)] [(.ref w_CREATE_SESSION)])) _
    refine st3 _ ?_
    show Steps p.tables e below (T3.setTop (mkF m 18 #[.val (.ref w_CREATE_SESSION)] [(.ref w_SET_DATA), (.ref w_CREATE_SESSION)])) _
    refine Jvm.RoadKit.acmp (g := (mkF m 18 #[.val (.ref w_CREATE_SESSION)] [(.ref w_SET_DATA), (.ref w_CREATE_SESSION)])) X3 hx rfl rfl rfl (pc0 := 18) (pc' := 21) (same := false) rfl (hb hby d2_18) rfl (decide_eq_false fun q => n_w_CREATE_SESSION_w_SET_DATA (Value.ref.inj q)) (by decide) (by decide) ?_
    show Steps p.tables e below (T3.setTop (mkF m 21 #[.val (.ref w_CREATE_SESSION)] [])) _
    refine XS.aloadN X3.here hx rfl (hb hby d2_21) rfl rfl ?_
    show Steps p.tables e below (T3.setTop (mkF m 22 #[.val (.ref w_CREATE_SESSION)] [(.ref w_CREATE_SESSION)])) _
    refine st4 _ ?_
    show Steps p.tables e below (T4.setTop (mkF m 25 #[.val (.ref w_CREATE_SESSION)] [(.ref w_CHECK), (.ref w_CREATE_SESSION)])) _
    refine Jvm.RoadKit.acmp (g := (mkF m 25 #[.val (.ref w_CREATE_SESSION)] [(.ref w_CHECK), (.ref w_CREATE_SESSION)])) X4 hx rfl rfl rfl (pc0 := 25) (pc' := 32) (same := false) rfl (hb hby d2_25) rfl (decide_eq_false fun q => (Ne.symm n_w_CHECK_w_CREATE_SESSION) (Value.ref.inj q)) (by decide) (by decide) ?_
    show Steps p.tables e below (T4.setTop (mkF m 32 #[.val (.ref w_CREATE_SESSION)] [])) _
    refine XS.iconst X4.here hx rfl (hb hby d2_32) ?_
    show Steps p.tables e below (T4.setTop (mkF m 33 #[.val (.ref w_CREATE_SESSION)] [(.int 0)])) _
    exact retN X4 hx (t := .boolean) Bd.returns (by simp) (hb hby d2_33) hr
  · show Q2_w_CREATE_SESSION Z w_CREATE_SESSION w_CREATE w_DELETE w_SET_DATA w_CHECK h0 n0 _ T4.heap _
    rw [e4]
    exact ⟨rfl, N0, rfl⟩
set_option maxRecDepth 65536 in
set_option maxHeartbeats 40000000 in
theorem pc0_k6 {p : Program} {l : Launch} {e : Env} {s : State} {m : MethodId} {args : Array Value} {below : List Frame} {meth : Method} {c : Code} {T0 : State} {locs : List Loc} {Z : State} {a0 : Array Value} {h0 : Heap} {n0 : Nat} (p1 : Int32) (b1 : Addr) (k1 : ClassId) (w_CREATE : Addr) (w_DELETE : Addr) (w_SET_DATA : Addr) (w_SET_ACL : Addr) (w_CHECK : Addr) (w_MULTI : Addr) (w_CREATE_SESSION : Addr) (w_CLOSE_SESSION : Addr) (w_AUTH : Addr)
    (X0 : Stand p l e room_1 s m args below meth c T0 locs 1 9) (hx : p.tables.exec = Jvm.exec) (hZ : Z.Warmed39 s.vm) (hw : ∀ d ∈ tables_1, d.before a0 Z = true) (hby : c.code = code) (hml : c.maxLocals = 7) (hown : s.vm.findClass "com/example/epochcast/epochcast/server/TypeIsOperationPinLaw" = some m.cls) (e0 : T0.heap = h0) (Z0 : n0 ≤ h0.size) (N0 : Fr n0 locs) (hk : ((p1 &&& (2147483647 : Int32)) % (9 : Int32)) = (6 : Int32)) (V_b1 : Arv Z h0 b1 k1 (.object "com/example/epochcast/epochcast/server/Txn$Type") (9 : Int32) [(.ref w_CREATE), (.ref w_DELETE), (.ref w_SET_DATA), (.ref w_SET_ACL), (.ref w_CHECK), (.ref w_MULTI), (.ref w_CREATE_SESSION), (.ref w_CLOSE_SESSION), (.ref w_AUTH)] .null) (F_code_w_CREATE_SESSION : Fld Z h0 w_CREATE_SESSION "com/example/epochcast/epochcast/server/Txn$Type" "code" "I" (.int (-10))) (E_w_CREATE_SESSION : Exa Z h0 w_CREATE_SESSION "com/example/epochcast/epochcast/server/Txn$Type") (S_CREATE : Sta Z h0 "com/example/epochcast/epochcast/server/Txn$Type" "CREATE" "Lcom/example/epochcast/epochcast/server/Txn$Type;" (.ref w_CREATE)) (n_w_CREATE_w_CREATE_SESSION : ¬ (w_CREATE = w_CREATE_SESSION)) (S_DELETE : Sta Z h0 "com/example/epochcast/epochcast/server/Txn$Type" "DELETE" "Lcom/example/epochcast/epochcast/server/Txn$Type;" (.ref w_DELETE)) (n_w_CREATE_SESSION_w_DELETE : ¬ (w_CREATE_SESSION = w_DELETE)) (S_SET_DATA : Sta Z h0 "com/example/epochcast/epochcast/server/Txn$Type" "SET_DATA" "Lcom/example/epochcast/epochcast/server/Txn$Type;" (.ref w_SET_DATA)) (n_w_CREATE_SESSION_w_SET_DATA : ¬ (w_CREATE_SESSION = w_SET_DATA)) (S_CHECK : Sta Z h0 "com/example/epochcast/epochcast/server/Txn$Type" "CHECK" "Lcom/example/epochcast/epochcast/server/Txn$Type;" (.ref w_CHECK)) (n_w_CHECK_w_CREATE_SESSION : ¬ (w_CHECK = w_CREATE_SESSION)) :
    ∃ (T' : State) (L' : List Loc) (Ls : Array Slot), Stand p l e room_1 s m args below meth c T' L' 1 9 ∧ Fr n0 L' ∧ ∀ target, Steps p.tables e below (T'.setTop (mkF m 143 Ls [(.int 1)])) target → Steps p.tables e below (T0.setTop (mkF m 63 #[.val (.int p1), .val (.ref b1), .unset, .unset, .unset, .unset, .unset] [])) target := by
  obtain ⟨cq1, kq1, q1a, q1b, q1c⟩ := isOf hZ e0 E_w_CREATE_SESSION
  obtain ⟨_, _, ⟨T1, L1, k1, n1⟩, -, X1, ⟨Lc1, hQ1, l1, y1, z1⟩, st1⟩ := X0.virtualBack hx (y := (⟨"com/example/epochcast/epochcast/server/Txn$Type", "code", "()I"⟩ : MethodName)) (z := (⟨"com/example/epochcast/epochcast/server/Txn$Type", "code", "()I"⟩ : MethodName)) hown (mvT hZ (hw _ (List.mem_of_getElem? (i := 23) rfl))) (mvT hZ (hw _ (List.mem_of_getElem? (i := 24) rfl))) (notFace_of_selects (args := #[]) (mvT hZ (hw _ (List.mem_of_getElem? (i := 26) rfl)))) (mvT hZ (hw _ (List.mem_of_getElem? (i := 26) rfl))) (mvT hZ (hw _ (List.mem_of_getElem? (i := 25) rfl))) (by decide) (backOf (W := 0) (rm1_w_CREATE_SESSION l Z a0 hw [] w_CREATE_SESSION h0 n0 Z0 F_code_w_CREATE_SESSION) hZ (hw _ (List.mem_of_getElem? (i := 27) rfl)) (hw _ (List.mem_of_getElem? (i := 3) rfl)) (by decide) (by decide)) q1a q1c (g := (mkF m 76 #[.val (.int p1), .val (.ref b1), .val (.int 6), .val (.ref w_CREATE_SESSION), .unset, .unset, .unset] [(.ref w_CREATE_SESSION)])) rfl (by rw [hml]; rfl) (Steps.refl _) (argsL := []) (rest := []) (lenOf pd___I rfl) rfl (by show 2 * 0 + _ ≤ _; exact Nat.le_of_eq rfl) (hb hby at_76) (fun _ _ => ⟨rfl, e0, (by decide : 1 + 0 ≤ _), (by decide : 9 + 0 ≤ _)⟩)
  dsimp only [Pt.U, Pt.locs, Pt.cells, Pt.slots] at X1 l1 y1 z1 st1 hQ1
  subst l1 y1 z1
  obtain ⟨rfl, N1q, e1⟩ := hQ1
  have N1 := Fr.app N0 N1q
  obtain ⟨cq2, kq2, q2a, q2b, q2c⟩ := isOf hZ e1 E_w_CREATE_SESSION
  obtain ⟨_, _, ⟨T2, L2, k2, n2⟩, -, X2, ⟨Lc2, hQ2, l2, y2, z2⟩, st2⟩ := X1.virtualBack hx (y := (⟨"com/example/epochcast/epochcast/server/Txn$Type", "isOperation", "()Z"⟩ : MethodName)) (z := (⟨"com/example/epochcast/epochcast/server/Txn$Type", "isOperation", "()Z"⟩ : MethodName)) hown (mvT hZ (hw _ (List.mem_of_getElem? (i := 30) rfl))) (mvT hZ (hw _ (List.mem_of_getElem? (i := 31) rfl))) (notFace_of_selects (args := #[]) (mvT hZ (hw _ (List.mem_of_getElem? (i := 33) rfl)))) (mvT hZ (hw _ (List.mem_of_getElem? (i := 33) rfl))) (mvT hZ (hw _ (List.mem_of_getElem? (i := 32) rfl))) (by decide) (backOf (W := 0) (rm2_w_CREATE_SESSION l Z a0 hw [] w_CREATE_SESSION w_CREATE w_DELETE w_SET_DATA w_CHECK h0 n0 Z0 S_CREATE n_w_CREATE_w_CREATE_SESSION S_DELETE n_w_CREATE_SESSION_w_DELETE S_SET_DATA n_w_CREATE_SESSION_w_SET_DATA S_CHECK n_w_CHECK_w_CREATE_SESSION) hZ (hw _ (List.mem_of_getElem? (i := 34) rfl)) (hw _ (List.mem_of_getElem? (i := 3) rfl)) (by decide) (by decide)) q2a q2c (g := (mkF m 114 #[.val (.int p1), .val (.ref b1), .val (.int 6), .val (.ref w_CREATE_SESSION), .val (.int (-10)), .val (.int 0), .unset] [(.ref w_CREATE_SESSION)])) rfl (by rw [hml]; rfl) (Steps.refl _) (argsL := []) (rest := []) (lenOf pd___Z rfl) rfl (by show 2 * 0 + _ ≤ _; exact Nat.le_of_eq rfl) (hb hby at_114) (fun _ _ => ⟨rfl, e1, (by decide : 1 + 0 ≤ _), (by decide : 9 + 0 ≤ _)⟩)
  dsimp only [Pt.U, Pt.locs, Pt.cells, Pt.slots] at X2 l2 y2 z2 st2 hQ2
  subst l2 y2 z2
  obtain ⟨rfl, N2q, e2⟩ := hQ2
  have N2 := Fr.app N1 N2q
  refine ⟨T2, _, #[.val (.int p1), .val (.ref b1), .val (.int 6), .val (.ref w_CREATE_SESSION), .val (.int (-10)), .val (.int 0), .val (.int 0)], X2, N2, fun target kt => ?_⟩
  show Steps p.tables e below (T0.setTop (mkF m 63 #[.val (.int p1), .val (.ref b1), .unset, .unset, .unset, .unset, .unset] [])) _
  refine XS.iloadN X0.here hx rfl (hb hby at_63) rfl ?_
  show Steps p.tables e below (T0.setTop (mkF m 64 #[.val (.int p1), .val (.ref b1), .unset, .unset, .unset, .unset, .unset] [(.int p1)])) _
  refine X0.ldcInt hx hown (mvT hZ (hw _ (List.mem_of_getElem? (i := 22) rfl))) (g := (mkF m 64 #[.val (.int p1), .val (.ref b1), .unset, .unset, .unset, .unset, .unset] [(.int p1)])) rfl (hb hby at_64) _ ?_
  show Steps p.tables e below (T0.setTop (mkF m 66 #[.val (.int p1), .val (.ref b1), .unset, .unset, .unset, .unset, .unset] [(.int 2147483647), (.int p1)])) _
  refine XS.iand X0.here hx rfl (hb hby at_66) rfl ?_
  show Steps p.tables e below (T0.setTop (mkF m 67 #[.val (.int p1), .val (.ref b1), .unset, .unset, .unset, .unset, .unset] [(.int (p1 &&& (2147483647 : Int32)))])) _
  refine XS.bipush X0.here hx rfl (hb hby at_67) ?_
  show Steps p.tables e below (T0.setTop (mkF m 69 #[.val (.int p1), .val (.ref b1), .unset, .unset, .unset, .unset, .unset] [(.int 9), (.int (p1 &&& (2147483647 : Int32)))])) _
  refine iremM X0 hx rfl (hb hby at_69) rfl (by decide) ?_
  show Steps p.tables e below (T0.setTop (mkF m 70 #[.val (.int p1), .val (.ref b1), .unset, .unset, .unset, .unset, .unset] [(.int ((p1 &&& (2147483647 : Int32)) % (9 : Int32)))])) _
  rw [hk]
  show Steps p.tables e below (T0.setTop (mkF m 70 #[.val (.int p1), .val (.ref b1), .unset, .unset, .unset, .unset, .unset] [(.int 6)])) _
  refine XS.istoreN X0.here hx rfl (hb hby at_70) rfl (l' := #[.val (.int p1), .val (.ref b1), .val (.int 6), .unset, .unset, .unset, .unset]) rfl ?_
  show Steps p.tables e below (T0.setTop (mkF m 71 #[.val (.int p1), .val (.ref b1), .val (.int 6), .unset, .unset, .unset, .unset] [])) _
  refine XS.aloadN X0.here hx rfl (hb hby at_71) rfl rfl ?_
  show Steps p.tables e below (T0.setTop (mkF m 72 #[.val (.int p1), .val (.ref b1), .val (.int 6), .unset, .unset, .unset, .unset] [(.ref b1)])) _
  refine XS.iloadN X0.here hx rfl (hb hby at_72) rfl ?_
  show Steps p.tables e below (T0.setTop (mkF m 73 #[.val (.int p1), .val (.ref b1), .val (.int 6), .unset, .unset, .unset, .unset] [(.int 6), (.ref b1)])) _
  refine own_ldR X0 hx hZ e0 V_b1 (j := (6 : Int32)) ⟨by decide, by decide⟩ rfl (g := (mkF m 73 #[.val (.int p1), .val (.ref b1), .val (.int 6), .unset, .unset, .unset, .unset] [(.int 6), (.ref b1)])) rfl rfl (hb hby at_73) _ ?_
  show Steps p.tables e below (T0.setTop (mkF m 74 #[.val (.int p1), .val (.ref b1), .val (.int 6), .unset, .unset, .unset, .unset] [(.ref w_CREATE_SESSION)])) _
  refine XS.astoreN X0.here hx rfl (hb hby at_74) rfl rfl (l' := #[.val (.int p1), .val (.ref b1), .val (.int 6), .val (.ref w_CREATE_SESSION), .unset, .unset, .unset]) rfl ?_
  show Steps p.tables e below (T0.setTop (mkF m 75 #[.val (.int p1), .val (.ref b1), .val (.int 6), .val (.ref w_CREATE_SESSION), .unset, .unset, .unset] [])) _
  refine XS.aloadN X0.here hx rfl (hb hby at_75) rfl rfl ?_
  show Steps p.tables e below (T0.setTop (mkF m 76 #[.val (.int p1), .val (.ref b1), .val (.int 6), .val (.ref w_CREATE_SESSION), .unset, .unset, .unset] [(.ref w_CREATE_SESSION)])) _
  refine st1.trans ?_
  show Steps p.tables e below (T1.setTop (mkF m 79 #[.val (.int p1), .val (.ref b1), .val (.int 6), .val (.ref w_CREATE_SESSION), .unset, .unset, .unset] [(.int (-10))])) _
  refine XS.istore X1.here hx rfl (hb hby at_79) rfl (l' := #[.val (.int p1), .val (.ref b1), .val (.int 6), .val (.ref w_CREATE_SESSION), .val (.int (-10)), .unset, .unset]) rfl ?_
  show Steps p.tables e below (T1.setTop (mkF m 81 #[.val (.int p1), .val (.ref b1), .val (.int 6), .val (.ref w_CREATE_SESSION), .val (.int (-10)), .unset, .unset] [])) _
  refine XS.iload X1.here hx rfl (hb hby at_81) rfl ?_
  show Steps p.tables e below (T1.setTop (mkF m 83 #[.val (.int p1), .val (.ref b1), .val (.int 6), .val (.ref w_CREATE_SESSION), .val (.int (-10)), .unset, .unset] [(.int (-10))])) _
  refine XS.iconst X1.here hx rfl (hb hby at_83) ?_
  show Steps p.tables e below (T1.setTop (mkF m 84 #[.val (.int p1), .val (.ref b1), .val (.int 6), .val (.ref w_CREATE_SESSION), .val (.int (-10)), .unset, .unset] [(.int 1), (.int (-10))])) _
  refine XS.icmpNo X1.here hx rfl (hb hby at_84) rfl (feq (by decide : ¬ ((-10 : Int32) = (1 : Int32)))).1 ?_
  show Steps p.tables e below (T1.setTop (mkF m 87 #[.val (.int p1), .val (.ref b1), .val (.int 6), .val (.ref w_CREATE_SESSION), .val (.int (-10)), .unset, .unset] [])) _
  refine XS.iload X1.here hx rfl (hb hby at_87) rfl ?_
  show Steps p.tables e below (T1.setTop (mkF m 89 #[.val (.int p1), .val (.ref b1), .val (.int 6), .val (.ref w_CREATE_SESSION), .val (.int (-10)), .unset, .unset] [(.int (-10))])) _
  refine XS.iconst X1.here hx rfl (hb hby at_89) ?_
  show Steps p.tables e below (T1.setTop (mkF m 90 #[.val (.int p1), .val (.ref b1), .val (.int 6), .val (.ref w_CREATE_SESSION), .val (.int (-10)), .unset, .unset] [(.int 2), (.int (-10))])) _
  refine XS.icmpNo X1.here hx rfl (hb hby at_90) rfl (feq (by decide : ¬ ((-10 : Int32) = (2 : Int32)))).1 ?_
  show Steps p.tables e below (T1.setTop (mkF m 93 #[.val (.int p1), .val (.ref b1), .val (.int 6), .val (.ref w_CREATE_SESSION), .val (.int (-10)), .unset, .unset] [])) _
  refine XS.iload X1.here hx rfl (hb hby at_93) rfl ?_
  show Steps p.tables e below (T1.setTop (mkF m 95 #[.val (.int p1), .val (.ref b1), .val (.int 6), .val (.ref w_CREATE_SESSION), .val (.int (-10)), .unset, .unset] [(.int (-10))])) _
  refine XS.iconst X1.here hx rfl (hb hby at_95) ?_
  show Steps p.tables e below (T1.setTop (mkF m 96 #[.val (.int p1), .val (.ref b1), .val (.int 6), .val (.ref w_CREATE_SESSION), .val (.int (-10)), .unset, .unset] [(.int 5), (.int (-10))])) _
  refine XS.icmpNo X1.here hx rfl (hb hby at_96) rfl (feq (by decide : ¬ ((-10 : Int32) = (5 : Int32)))).1 ?_
  show Steps p.tables e below (T1.setTop (mkF m 99 #[.val (.int p1), .val (.ref b1), .val (.int 6), .val (.ref w_CREATE_SESSION), .val (.int (-10)), .unset, .unset] [])) _
  refine XS.iload X1.here hx rfl (hb hby at_99) rfl ?_
  show Steps p.tables e below (T1.setTop (mkF m 101 #[.val (.int p1), .val (.ref b1), .val (.int 6), .val (.ref w_CREATE_SESSION), .val (.int (-10)), .unset, .unset] [(.int (-10))])) _
  refine XS.bipush X1.here hx rfl (hb hby at_101) ?_
  show Steps p.tables e below (T1.setTop (mkF m 103 #[.val (.int p1), .val (.ref b1), .val (.int 6), .val (.ref w_CREATE_SESSION), .val (.int (-10)), .unset, .unset] [(.int 13), (.int (-10))])) _
  refine XS.icmpYes X1.here hx rfl (pc0 := 103) (pc' := 110) rfl (hb hby at_103) rfl (feq (by decide : ¬ ((-10 : Int32) = (13 : Int32)))).2 (by decide) (by decide) ?_
  show Steps p.tables e below (T1.setTop (mkF m 110 #[.val (.int p1), .val (.ref b1), .val (.int 6), .val (.ref w_CREATE_SESSION), .val (.int (-10)), .unset, .unset] [])) _
  refine XS.iconst X1.here hx rfl (hb hby at_110) ?_
  show Steps p.tables e below (T1.setTop (mkF m 111 #[.val (.int p1), .val (.ref b1), .val (.int 6), .val (.ref w_CREATE_SESSION), .val (.int (-10)), .unset, .unset] [(.int 0)])) _
  refine XS.istore X1.here hx rfl (hb hby at_111) rfl (l' := #[.val (.int p1), .val (.ref b1), .val (.int 6), .val (.ref w_CREATE_SESSION), .val (.int (-10)), .val (.int 0), .unset]) rfl ?_
  show Steps p.tables e below (T1.setTop (mkF m 113 #[.val (.int p1), .val (.ref b1), .val (.int 6), .val (.ref w_CREATE_SESSION), .val (.int (-10)), .val (.int 0), .unset] [])) _
  refine XS.aloadN X1.here hx rfl (hb hby at_113) rfl rfl ?_
  show Steps p.tables e below (T1.setTop (mkF m 114 #[.val (.int p1), .val (.ref b1), .val (.int 6), .val (.ref w_CREATE_SESSION), .val (.int (-10)), .val (.int 0), .unset] [(.ref w_CREATE_SESSION)])) _
  refine st2.trans ?_
  show Steps p.tables e below (T2.setTop (mkF m 117 #[.val (.int p1), .val (.ref b1), .val (.int 6), .val (.ref w_CREATE_SESSION), .val (.int (-10)), .val (.int 0), .unset] [(.int 0)])) _
  refine XS.istore X2.here hx rfl (hb hby at_117) rfl (l' := #[.val (.int p1), .val (.ref b1), .val (.int 6), .val (.ref w_CREATE_SESSION), .val (.int (-10)), .val (.int 0), .val (.int 0)]) rfl ?_
  show Steps p.tables e below (T2.setTop (mkF m 119 #[.val (.int p1), .val (.ref b1), .val (.int 6), .val (.ref w_CREATE_SESSION), .val (.int (-10)), .val (.int 0), .val (.int 0)] [])) _
  refine XS.iload X2.here hx rfl (hb hby at_119) rfl ?_
  show Steps p.tables e below (T2.setTop (mkF m 121 #[.val (.int p1), .val (.ref b1), .val (.int 6), .val (.ref w_CREATE_SESSION), .val (.int (-10)), .val (.int 0), .val (.int 0)] [(.int 0)])) _
  refine XS.iload X2.here hx rfl (hb hby at_121) rfl ?_
  show Steps p.tables e below (T2.setTop (mkF m 123 #[.val (.int p1), .val (.ref b1), .val (.int 6), .val (.ref w_CREATE_SESSION), .val (.int (-10)), .val (.int 0), .val (.int 0)] [(.int 0), (.int 0)])) _
  refine XS.icmpYes X2.here hx rfl (pc0 := 123) (pc' := 128) rfl (hb hby at_123) rfl (teq (by decide : (0 : Int32) = (0 : Int32))).1 (by decide) (by decide) ?_
  show Steps p.tables e below (T2.setTop (mkF m 128 #[.val (.int p1), .val (.ref b1), .val (.int 6), .val (.ref w_CREATE_SESSION), .val (.int (-10)), .val (.int 0), .val (.int 0)] [])) _
  refine XS.iload X2.here hx rfl (hb hby at_128) rfl ?_
  show Steps p.tables e below (T2.setTop (mkF m 130 #[.val (.int p1), .val (.ref b1), .val (.int 6), .val (.ref w_CREATE_SESSION), .val (.int (-10)), .val (.int 0), .val (.int 0)] [(.int 0)])) _
  refine XS.ifYes X2.here hx rfl (pc0 := 130) (pc' := 142) rfl (hb hby at_130) rfl ((if0 _ _).trans (teq (by decide : (0 : Int32) = (0 : Int32))).1) (by decide) (by decide) ?_
  show Steps p.tables e below (T2.setTop (mkF m 142 #[.val (.int p1), .val (.ref b1), .val (.int 6), .val (.ref w_CREATE_SESSION), .val (.int (-10)), .val (.int 0), .val (.int 0)] [])) _
  refine XS.iconst X2.here hx rfl (hb hby at_142) ?_
  show Steps p.tables e below (T2.setTop (mkF m 143 #[.val (.int p1), .val (.ref b1), .val (.int 6), .val (.ref w_CREATE_SESSION), .val (.int (-10)), .val (.int 0), .val (.int 0)] [(.int 1)])) _
  exact kt
def Q1_w_CLOSE_SESSION (Z : State) (w_CLOSE_SESSION : Addr) (h0 : Heap) (n0 : Nat) (v : Option Value) (h : Heap) (L : List Loc) : Prop := v = some (.int (-11)) ∧ Fr n0 L ∧ h = h0
set_option maxRecDepth 65536 in
set_option maxHeartbeats 40000000 in
theorem rm1_w_CLOSE_SESSION (l : Launch) (Z : State) (a0 : Array Value) (hw : ∀ d ∈ tables_1, d.before a0 Z = true) (ws : List Jvm.Cond) (w_CLOSE_SESSION : Addr) (h0 : Heap) (n0 : Nat) (Z0 : n0 ≤ h0.size) (F_code_w_CLOSE_SESSION : Fld Z h0 w_CLOSE_SESSION "com/example/epochcast/epochcast/server/Txn$Type" "code" "I" (.int (-11))) :
    MetFree l (⟨"com/example/epochcast/epochcast/server/Txn$Type", "code", "()I"⟩ : MethodName) (head1 (Jvm.Cond.code (⟨"com/example/epochcast/epochcast/server/Txn$Type", "code", "()I"⟩ : MethodName) prog_202_method_4_code 1 (some .int) :: ws) ({ frames := 0, cells := 0, slots := 0, locals := 0 } : Room)) (fun a U => a = #[(.ref w_CLOSE_SESSION)] ∧ Z.Warmed39 U.vm ∧ U.heap = h0) (fun _ _ _ _ _ => True) (fun _ U o U' => ∃ v L, o = .returned v ∧ Q1_w_CLOSE_SESSION Z w_CLOSE_SESSION h0 n0 v U'.heap L ∧ FrameEnd U o U' L ({ frames := 0, cells := 0, slots := 0, locals := 0 } : Room).cells ({ frames := 0, cells := 0, slots := 0, locals := 0 } : Room).slots) := by
  refine MetFree.of_bodySF (plainFor_of_name pn_1) hisR ?_
  intro p e s m args below meth c s₁ Bd hml0 hP hK
  obtain ⟨rfl, hZ, hh⟩ := hP
  have hx := Bd.exec
  have hby := Bd.bytes
  have hml : c.maxLocals = 1 := hml0
  have hown : s.vm.findClass "com/example/epochcast/epochcast/server/Txn$Type" = some m.cls := findClass_of_methodNamed Bd.named
  have hnm := (name_of_methodNamed Bd.named Bd.method).1
  have X0 : Stand p l e ({ frames := 0, cells := 0, slots := 0, locals := 0 } : Room) s m #[(.ref w_CLOSE_SESSION)] below meth c s₁ [] 0 0 := Stand.of_body Bd
  have e0 : s₁.heap = h0 := by rw [← hh, Bd.state]; rfl
  have N0 := Fr.nil n0
  have pre0 : ∀ t, Steps p.tables e below (s₁.setTop (mkF m 0 #[.val (.ref w_CLOSE_SESSION)] [])) t → Steps p.tables e below (s₁.setTop (entryFrame m #[(.ref w_CLOSE_SESSION)] 1)) t := fun t k => castTop (by first | (simp [entryFrame, mkF, argsToLocals, Value.category]; done) | rfl) k
  obtain ⟨T1, X1, e1, st1⟩ := getF X0 hx hZ hown (host := "") (Or.inl (hw _ (List.mem_of_getElem? (i := 28) rfl))) Via.refl e0 F_code_w_CLOSE_SESSION (g := (mkF m 1 #[.val (.ref w_CLOSE_SESSION)] [(.ref w_CLOSE_SESSION)])) rfl rfl (hb hby d1_1)
  obtain ⟨fs, hr, hrun, hended, hW, hsame⟩ := X1.leave (v := some (.int (-11))) (fun h => by rw [Bd.returns] at h; cases h)
  refine ⟨_, _, pre0 _ ?_, hrun, hended, _, _, rfl, ?_, ⟨_, rfl⟩, hW, hsame.mono (by decide) (by decide)⟩
  · show Steps p.tables e below (s₁.setTop (mkF m 0 #[.val (.ref w_CLOSE_SESSION)] [])) _
    refine XS.aloadN X0.here hx rfl (hb hby d1_0) rfl rfl ?_
    show Steps p.tables e below (s₁.setTop (mkF m 1 #[.val (.ref w_CLOSE_SESSION)] [(.ref w_CLOSE_SESSION)])) _
    refine st1 _ ?_
    show Steps p.tables e below (T1.setTop (mkF m 4 #[.val (.ref w_CLOSE_SESSION)] [(.int (-11))])) _
    exact retI X1 hx Bd.returns (hb hby d1_4) hr
  · show Q1_w_CLOSE_SESSION Z w_CLOSE_SESSION h0 n0 _ T1.heap _
    rw [e1]
    exact ⟨rfl, N0, rfl⟩
def Q2_w_CLOSE_SESSION (Z : State) (w_CLOSE_SESSION : Addr) (w_CREATE : Addr) (w_DELETE : Addr) (w_SET_DATA : Addr) (w_CHECK : Addr) (h0 : Heap) (n0 : Nat) (v : Option Value) (h : Heap) (L : List Loc) : Prop := v = some (.int 0) ∧ Fr n0 L ∧ h = h0
set_option maxRecDepth 65536 in
set_option maxHeartbeats 40000000 in
theorem rm2_w_CLOSE_SESSION (l : Launch) (Z : State) (a0 : Array Value) (hw : ∀ d ∈ tables_1, d.before a0 Z = true) (ws : List Jvm.Cond) (w_CLOSE_SESSION : Addr) (w_CREATE : Addr) (w_DELETE : Addr) (w_SET_DATA : Addr) (w_CHECK : Addr) (h0 : Heap) (n0 : Nat) (Z0 : n0 ≤ h0.size) (S_CREATE : Sta Z h0 "com/example/epochcast/epochcast/server/Txn$Type" "CREATE" "Lcom/example/epochcast/epochcast/server/Txn$Type;" (.ref w_CREATE)) (n_w_CLOSE_SESSION_w_CREATE : ¬ (w_CLOSE_SESSION = w_CREATE)) (S_DELETE : Sta Z h0 "com/example/epochcast/epochcast/server/Txn$Type" "DELETE" "Lcom/example/epochcast/epochcast/server/Txn$Type;" (.ref w_DELETE)) (n_w_CLOSE_SESSION_w_DELETE : ¬ (w_CLOSE_SESSION = w_DELETE)) (S_SET_DATA : Sta Z h0 "com/example/epochcast/epochcast/server/Txn$Type" "SET_DATA" "Lcom/example/epochcast/epochcast/server/Txn$Type;" (.ref w_SET_DATA)) (n_w_CLOSE_SESSION_w_SET_DATA : ¬ (w_CLOSE_SESSION = w_SET_DATA)) (S_CHECK : Sta Z h0 "com/example/epochcast/epochcast/server/Txn$Type" "CHECK" "Lcom/example/epochcast/epochcast/server/Txn$Type;" (.ref w_CHECK)) (n_w_CHECK_w_CLOSE_SESSION : ¬ (w_CHECK = w_CLOSE_SESSION)) :
    MetFree l (⟨"com/example/epochcast/epochcast/server/Txn$Type", "isOperation", "()Z"⟩ : MethodName) (head1 (Jvm.Cond.code (⟨"com/example/epochcast/epochcast/server/Txn$Type", "isOperation", "()Z"⟩ : MethodName) prog_202_method_6_code 1 (some .boolean) :: ws) ({ frames := 0, cells := 0, slots := 0, locals := 0 } : Room)) (fun a U => a = #[(.ref w_CLOSE_SESSION)] ∧ Z.Warmed39 U.vm ∧ U.heap = h0) (fun _ _ _ _ _ => True) (fun _ U o U' => ∃ v L, o = .returned v ∧ Q2_w_CLOSE_SESSION Z w_CLOSE_SESSION w_CREATE w_DELETE w_SET_DATA w_CHECK h0 n0 v U'.heap L ∧ FrameEnd U o U' L ({ frames := 0, cells := 0, slots := 0, locals := 0 } : Room).cells ({ frames := 0, cells := 0, slots := 0, locals := 0 } : Room).slots) := by
  refine MetFree.of_bodySF (plainFor_of_name pn_2) hisR ?_
  intro p e s m args below meth c s₁ Bd hml0 hP hK
  obtain ⟨rfl, hZ, hh⟩ := hP
  have hx := Bd.exec
  have hby := Bd.bytes
  have hml : c.maxLocals = 1 := hml0
  have hown : s.vm.findClass "com/example/epochcast/epochcast/server/Txn$Type" = some m.cls := findClass_of_methodNamed Bd.named
  have hnm := (name_of_methodNamed Bd.named Bd.method).1
  have X0 : Stand p l e ({ frames := 0, cells := 0, slots := 0, locals := 0 } : Room) s m #[(.ref w_CLOSE_SESSION)] below meth c s₁ [] 0 0 := Stand.of_body Bd
  have e0 : s₁.heap = h0 := by rw [← hh, Bd.state]; rfl
  have N0 := Fr.nil n0
  have pre0 : ∀ t, Steps p.tables e below (s₁.setTop (mkF m 0 #[.val (.ref w_CLOSE_SESSION)] [])) t → Steps p.tables e below (s₁.setTop (entryFrame m #[(.ref w_CLOSE_SESSION)] 1)) t := fun t k => castTop (by first | (simp [entryFrame, mkF, argsToLocals, Value.category]; done) | rfl) k
  obtain ⟨T1, X1, e1, st1⟩ := getS2 X0 hx hZ hown (host := "") (Or.inl (hw _ (List.mem_of_getElem? (i := 35) rfl))) Via.refl e0 S_CREATE (g := (mkF m 1 #[.val (.ref w_CLOSE_SESSION)] [(.ref w_CLOSE_SESSION)])) rfl (hb hby d2_1)
  obtain ⟨T2, X2, e2, st2⟩ := getS2 X1 hx hZ hown (host := "") (Or.inl (hw _ (List.mem_of_getElem? (i := 44) rfl))) Via.refl e1 S_DELETE (g := (mkF m 8 #[.val (.ref w_CLOSE_SESSION)] [(.ref w_CLOSE_SESSION)])) rfl (hb hby d2_8)
  obtain ⟨T3, X3, e3, st3⟩ := getS2 X2 hx hZ hown (host := "") (Or.inl (hw _ (List.mem_of_getElem? (i := 45) rfl))) Via.refl e2 S_SET_DATA (g := (mkF m 15 #[.val (.ref w_CLOSE_SESSION)] [(.ref w_CLOSE_SESSION)])) rfl (hb hby d2_15)
  obtain ⟨T4, X4, e4, st4⟩ := getS2 X3 hx hZ hown (host := "") (Or.inl (hw _ (List.mem_of_getElem? (i := 46) rfl))) Via.refl e3 S_CHECK (g := (mkF m 22 #[.val (.ref w_CLOSE_SESSION)] [(.ref w_CLOSE_SESSION)])) rfl (hb hby d2_22)
  obtain ⟨fs, hr, hrun, hended, hW, hsame⟩ := X4.leave (v := some (.int 0)) (fun h => by rw [Bd.returns] at h; cases h)
  refine ⟨_, _, pre0 _ ?_, hrun, hended, _, _, rfl, ?_, ⟨_, rfl⟩, hW, hsame.mono (by decide) (by decide)⟩
  · show Steps p.tables e below (s₁.setTop (mkF m 0 #[.val (.ref w_CLOSE_SESSION)] [])) _
    refine XS.aloadN X0.here hx rfl (hb hby d2_0) rfl rfl ?_
    show Steps p.tables e below (s₁.setTop (mkF m 1 #[.val (.ref w_CLOSE_SESSION)] [(.ref w_CLOSE_SESSION)])) _
    refine st1 _ ?_
    show Steps p.tables e below (T1.setTop (mkF m 4 #[.val (.ref w_CLOSE_SESSION)] [(.ref w_CREATE), (.ref w_CLOSE_SESSION)])) _
    refine Jvm.RoadKit.acmp (g := (mkF m 4 #[.val (.ref w_CLOSE_SESSION)] [(.ref w_CREATE), (.ref w_CLOSE_SESSION)])) X1 hx rfl rfl rfl (pc0 := 4) (pc' := 7) (same := false) rfl (hb hby d2_4) rfl (decide_eq_false fun q => n_w_CLOSE_SESSION_w_CREATE (Value.ref.inj q)) (by decide) (by decide) ?_
    show Steps p.tables e below (T1.setTop (mkF m 7 #[.val (.ref w_CLOSE_SESSION)] [])) _
    refine XS.aloadN X1.here hx rfl (hb hby d2_7) rfl rfl ?_
    show Steps p.tables e below (T1.setTop (mkF m 8 #[.val (.ref w_CLOSE_SESSION)] [(.ref w_CLOSE_SESSION)])) _
    refine st2 _ ?_
    show Steps p.tables e below (T2.setTop (mkF m 11 #[.val (.ref w_CLOSE_SESSION)] [(.ref w_DELETE), (.ref w_CLOSE_SESSION)])) _
    refine Jvm.RoadKit.acmp (g := (mkF m 11 #[.val (.ref w_CLOSE_SESSION)] [(.ref w_DELETE), (.ref w_CLOSE_SESSION)])) X2 hx rfl rfl rfl (pc0 := 11) (pc' := 14) (same := false) rfl (hb hby d2_11) rfl (decide_eq_false fun q => n_w_CLOSE_SESSION_w_DELETE (Value.ref.inj q)) (by decide) (by decide) ?_
    show Steps p.tables e below (T2.setTop (mkF m 14 #[.val (.ref w_CLOSE_SESSION)] [])) _
    refine XS.aloadN X2.here hx rfl (hb hby d2_14) rfl rfl ?_
    show Steps p.tables e below (T2.setTop (mkF m 15 #[.val (.ref w_CLOSE_SESSION)] [(.ref w_CLOSE_SESSION)])) _
    refine st3 _ ?_
    show Steps p.tables e below (T3.setTop (mkF m 18 #[.val (.ref w_CLOSE_SESSION)] [(.ref w_SET_DATA), (.ref w_CLOSE_SESSION)])) _
    refine Jvm.RoadKit.acmp (g := (mkF m 18 #[.val (.ref w_CLOSE_SESSION)] [(.ref w_SET_DATA), (.ref w_CLOSE_SESSION)])) X3 hx rfl rfl rfl (pc0 := 18) (pc' := 21) (same := false) rfl (hb hby d2_18) rfl (decide_eq_false fun q => n_w_CLOSE_SESSION_w_SET_DATA (Value.ref.inj q)) (by decide) (by decide) ?_
    show Steps p.tables e below (T3.setTop (mkF m 21 #[.val (.ref w_CLOSE_SESSION)] [])) _
    refine XS.aloadN X3.here hx rfl (hb hby d2_21) rfl rfl ?_
    show Steps p.tables e below (T3.setTop (mkF m 22 #[.val (.ref w_CLOSE_SESSION)] [(.ref w_CLOSE_SESSION)])) _
    refine st4 _ ?_
    show Steps p.tables e below (T4.setTop (mkF m 25 #[.val (.ref w_CLOSE_SESSION)] [(.ref w_CHECK), (.ref w_CLOSE_SESSION)])) _
    refine Jvm.RoadKit.acmp (g := (mkF m 25 #[.val (.ref w_CLOSE_SESSION)] [(.ref w_CHECK), (.ref w_CLOSE_SESSION)])) X4 hx rfl rfl rfl (pc0 := 25) (pc' := 32) (same := false) rfl (hb hby d2_25) rfl (decide_eq_false fun q => (Ne.symm n_w_CHECK_w_CLOSE_SESSION) (Value.ref.inj q)) (by decide) (by decide) ?_
    show Steps p.tables e below (T4.setTop (mkF m 32 #[.val (.ref w_CLOSE_SESSION)] [])) _
    refine XS.iconst X4.here hx rfl (hb hby d2_32) ?_
    show Steps p.tables e below (T4.setTop (mkF m 33 #[.val (.ref w_CLOSE_SESSION)] [(.int 0)])) _
    exact retN X4 hx (t := .boolean) Bd.returns (by simp) (hb hby d2_33) hr
  · show Q2_w_CLOSE_SESSION Z w_CLOSE_SESSION w_CREATE w_DELETE w_SET_DATA w_CHECK h0 n0 _ T4.heap _
    rw [e4]
    exact ⟨rfl, N0, rfl⟩
set_option maxRecDepth 65536 in
set_option maxHeartbeats 40000000 in
theorem pc0_k7 {p : Program} {l : Launch} {e : Env} {s : State} {m : MethodId} {args : Array Value} {below : List Frame} {meth : Method} {c : Code} {T0 : State} {locs : List Loc} {Z : State} {a0 : Array Value} {h0 : Heap} {n0 : Nat} (p1 : Int32) (b1 : Addr) (k1 : ClassId) (w_CREATE : Addr) (w_DELETE : Addr) (w_SET_DATA : Addr) (w_SET_ACL : Addr) (w_CHECK : Addr) (w_MULTI : Addr) (w_CREATE_SESSION : Addr) (w_CLOSE_SESSION : Addr) (w_AUTH : Addr)
    (X0 : Stand p l e room_1 s m args below meth c T0 locs 1 9) (hx : p.tables.exec = Jvm.exec) (hZ : Z.Warmed39 s.vm) (hw : ∀ d ∈ tables_1, d.before a0 Z = true) (hby : c.code = code) (hml : c.maxLocals = 7) (hown : s.vm.findClass "com/example/epochcast/epochcast/server/TypeIsOperationPinLaw" = some m.cls) (e0 : T0.heap = h0) (Z0 : n0 ≤ h0.size) (N0 : Fr n0 locs) (hk : ((p1 &&& (2147483647 : Int32)) % (9 : Int32)) = (7 : Int32)) (V_b1 : Arv Z h0 b1 k1 (.object "com/example/epochcast/epochcast/server/Txn$Type") (9 : Int32) [(.ref w_CREATE), (.ref w_DELETE), (.ref w_SET_DATA), (.ref w_SET_ACL), (.ref w_CHECK), (.ref w_MULTI), (.ref w_CREATE_SESSION), (.ref w_CLOSE_SESSION), (.ref w_AUTH)] .null) (F_code_w_CLOSE_SESSION : Fld Z h0 w_CLOSE_SESSION "com/example/epochcast/epochcast/server/Txn$Type" "code" "I" (.int (-11))) (E_w_CLOSE_SESSION : Exa Z h0 w_CLOSE_SESSION "com/example/epochcast/epochcast/server/Txn$Type") (S_CREATE : Sta Z h0 "com/example/epochcast/epochcast/server/Txn$Type" "CREATE" "Lcom/example/epochcast/epochcast/server/Txn$Type;" (.ref w_CREATE)) (n_w_CLOSE_SESSION_w_CREATE : ¬ (w_CLOSE_SESSION = w_CREATE)) (S_DELETE : Sta Z h0 "com/example/epochcast/epochcast/server/Txn$Type" "DELETE" "Lcom/example/epochcast/epochcast/server/Txn$Type;" (.ref w_DELETE)) (n_w_CLOSE_SESSION_w_DELETE : ¬ (w_CLOSE_SESSION = w_DELETE)) (S_SET_DATA : Sta Z h0 "com/example/epochcast/epochcast/server/Txn$Type" "SET_DATA" "Lcom/example/epochcast/epochcast/server/Txn$Type;" (.ref w_SET_DATA)) (n_w_CLOSE_SESSION_w_SET_DATA : ¬ (w_CLOSE_SESSION = w_SET_DATA)) (S_CHECK : Sta Z h0 "com/example/epochcast/epochcast/server/Txn$Type" "CHECK" "Lcom/example/epochcast/epochcast/server/Txn$Type;" (.ref w_CHECK)) (n_w_CHECK_w_CLOSE_SESSION : ¬ (w_CHECK = w_CLOSE_SESSION)) :
    ∃ (T' : State) (L' : List Loc) (Ls : Array Slot), Stand p l e room_1 s m args below meth c T' L' 1 9 ∧ Fr n0 L' ∧ ∀ target, Steps p.tables e below (T'.setTop (mkF m 143 Ls [(.int 1)])) target → Steps p.tables e below (T0.setTop (mkF m 63 #[.val (.int p1), .val (.ref b1), .unset, .unset, .unset, .unset, .unset] [])) target := by
  obtain ⟨cq1, kq1, q1a, q1b, q1c⟩ := isOf hZ e0 E_w_CLOSE_SESSION
  obtain ⟨_, _, ⟨T1, L1, k1, n1⟩, -, X1, ⟨Lc1, hQ1, l1, y1, z1⟩, st1⟩ := X0.virtualBack hx (y := (⟨"com/example/epochcast/epochcast/server/Txn$Type", "code", "()I"⟩ : MethodName)) (z := (⟨"com/example/epochcast/epochcast/server/Txn$Type", "code", "()I"⟩ : MethodName)) hown (mvT hZ (hw _ (List.mem_of_getElem? (i := 23) rfl))) (mvT hZ (hw _ (List.mem_of_getElem? (i := 24) rfl))) (notFace_of_selects (args := #[]) (mvT hZ (hw _ (List.mem_of_getElem? (i := 26) rfl)))) (mvT hZ (hw _ (List.mem_of_getElem? (i := 26) rfl))) (mvT hZ (hw _ (List.mem_of_getElem? (i := 25) rfl))) (by decide) (backOf (W := 0) (rm1_w_CLOSE_SESSION l Z a0 hw [] w_CLOSE_SESSION h0 n0 Z0 F_code_w_CLOSE_SESSION) hZ (hw _ (List.mem_of_getElem? (i := 27) rfl)) (hw _ (List.mem_of_getElem? (i := 3) rfl)) (by decide) (by decide)) q1a q1c (g := (mkF m 76 #[.val (.int p1), .val (.ref b1), .val (.int 7), .val (.ref w_CLOSE_SESSION), .unset, .unset, .unset] [(.ref w_CLOSE_SESSION)])) rfl (by rw [hml]; rfl) (Steps.refl _) (argsL := []) (rest := []) (lenOf pd___I rfl) rfl (by show 2 * 0 + _ ≤ _; exact Nat.le_of_eq rfl) (hb hby at_76) (fun _ _ => ⟨rfl, e0, (by decide : 1 + 0 ≤ _), (by decide : 9 + 0 ≤ _)⟩)
  dsimp only [Pt.U, Pt.locs, Pt.cells, Pt.slots] at X1 l1 y1 z1 st1 hQ1
  subst l1 y1 z1
  obtain ⟨rfl, N1q, e1⟩ := hQ1
  have N1 := Fr.app N0 N1q
  obtain ⟨cq2, kq2, q2a, q2b, q2c⟩ := isOf hZ e1 E_w_CLOSE_SESSION
  obtain ⟨_, _, ⟨T2, L2, k2, n2⟩, -, X2, ⟨Lc2, hQ2, l2, y2, z2⟩, st2⟩ := X1.virtualBack hx (y := (⟨"com/example/epochcast/epochcast/server/Txn$Type", "isOperation", "()Z"⟩ : MethodName)) (z := (⟨"com/example/epochcast/epochcast/server/Txn$Type", "isOperation", "()Z"⟩ : MethodName)) hown (mvT hZ (hw _ (List.mem_of_getElem? (i := 30) rfl))) (mvT hZ (hw _ (List.mem_of_getElem? (i := 31) rfl))) (notFace_of_selects (args := #[]) (mvT hZ (hw _ (List.mem_of_getElem? (i := 33) rfl)))) (mvT hZ (hw _ (List.mem_of_getElem? (i := 33) rfl))) (mvT hZ (hw _ (List.mem_of_getElem? (i := 32) rfl))) (by decide) (backOf (W := 0) (rm2_w_CLOSE_SESSION l Z a0 hw [] w_CLOSE_SESSION w_CREATE w_DELETE w_SET_DATA w_CHECK h0 n0 Z0 S_CREATE n_w_CLOSE_SESSION_w_CREATE S_DELETE n_w_CLOSE_SESSION_w_DELETE S_SET_DATA n_w_CLOSE_SESSION_w_SET_DATA S_CHECK n_w_CHECK_w_CLOSE_SESSION) hZ (hw _ (List.mem_of_getElem? (i := 34) rfl)) (hw _ (List.mem_of_getElem? (i := 3) rfl)) (by decide) (by decide)) q2a q2c (g := (mkF m 114 #[.val (.int p1), .val (.ref b1), .val (.int 7), .val (.ref w_CLOSE_SESSION), .val (.int (-11)), .val (.int 0), .unset] [(.ref w_CLOSE_SESSION)])) rfl (by rw [hml]; rfl) (Steps.refl _) (argsL := []) (rest := []) (lenOf pd___Z rfl) rfl (by show 2 * 0 + _ ≤ _; exact Nat.le_of_eq rfl) (hb hby at_114) (fun _ _ => ⟨rfl, e1, (by decide : 1 + 0 ≤ _), (by decide : 9 + 0 ≤ _)⟩)
  dsimp only [Pt.U, Pt.locs, Pt.cells, Pt.slots] at X2 l2 y2 z2 st2 hQ2
  subst l2 y2 z2
  obtain ⟨rfl, N2q, e2⟩ := hQ2
  have N2 := Fr.app N1 N2q
  refine ⟨T2, _, #[.val (.int p1), .val (.ref b1), .val (.int 7), .val (.ref w_CLOSE_SESSION), .val (.int (-11)), .val (.int 0), .val (.int 0)], X2, N2, fun target kt => ?_⟩
  show Steps p.tables e below (T0.setTop (mkF m 63 #[.val (.int p1), .val (.ref b1), .unset, .unset, .unset, .unset, .unset] [])) _
  refine XS.iloadN X0.here hx rfl (hb hby at_63) rfl ?_
  show Steps p.tables e below (T0.setTop (mkF m 64 #[.val (.int p1), .val (.ref b1), .unset, .unset, .unset, .unset, .unset] [(.int p1)])) _
  refine X0.ldcInt hx hown (mvT hZ (hw _ (List.mem_of_getElem? (i := 22) rfl))) (g := (mkF m 64 #[.val (.int p1), .val (.ref b1), .unset, .unset, .unset, .unset, .unset] [(.int p1)])) rfl (hb hby at_64) _ ?_
  show Steps p.tables e below (T0.setTop (mkF m 66 #[.val (.int p1), .val (.ref b1), .unset, .unset, .unset, .unset, .unset] [(.int 2147483647), (.int p1)])) _
  refine XS.iand X0.here hx rfl (hb hby at_66) rfl ?_
  show Steps p.tables e below (T0.setTop (mkF m 67 #[.val (.int p1), .val (.ref b1), .unset, .unset, .unset, .unset, .unset] [(.int (p1 &&& (2147483647 : Int32)))])) _
  refine XS.bipush X0.here hx rfl (hb hby at_67) ?_
  show Steps p.tables e below (T0.setTop (mkF m 69 #[.val (.int p1), .val (.ref b1), .unset, .unset, .unset, .unset, .unset] [(.int 9), (.int (p1 &&& (2147483647 : Int32)))])) _
  refine iremM X0 hx rfl (hb hby at_69) rfl (by decide) ?_
  show Steps p.tables e below (T0.setTop (mkF m 70 #[.val (.int p1), .val (.ref b1), .unset, .unset, .unset, .unset, .unset] [(.int ((p1 &&& (2147483647 : Int32)) % (9 : Int32)))])) _
  rw [hk]
  show Steps p.tables e below (T0.setTop (mkF m 70 #[.val (.int p1), .val (.ref b1), .unset, .unset, .unset, .unset, .unset] [(.int 7)])) _
  refine XS.istoreN X0.here hx rfl (hb hby at_70) rfl (l' := #[.val (.int p1), .val (.ref b1), .val (.int 7), .unset, .unset, .unset, .unset]) rfl ?_
  show Steps p.tables e below (T0.setTop (mkF m 71 #[.val (.int p1), .val (.ref b1), .val (.int 7), .unset, .unset, .unset, .unset] [])) _
  refine XS.aloadN X0.here hx rfl (hb hby at_71) rfl rfl ?_
  show Steps p.tables e below (T0.setTop (mkF m 72 #[.val (.int p1), .val (.ref b1), .val (.int 7), .unset, .unset, .unset, .unset] [(.ref b1)])) _
  refine XS.iloadN X0.here hx rfl (hb hby at_72) rfl ?_
  show Steps p.tables e below (T0.setTop (mkF m 73 #[.val (.int p1), .val (.ref b1), .val (.int 7), .unset, .unset, .unset, .unset] [(.int 7), (.ref b1)])) _
  refine own_ldR X0 hx hZ e0 V_b1 (j := (7 : Int32)) ⟨by decide, by decide⟩ rfl (g := (mkF m 73 #[.val (.int p1), .val (.ref b1), .val (.int 7), .unset, .unset, .unset, .unset] [(.int 7), (.ref b1)])) rfl rfl (hb hby at_73) _ ?_
  show Steps p.tables e below (T0.setTop (mkF m 74 #[.val (.int p1), .val (.ref b1), .val (.int 7), .unset, .unset, .unset, .unset] [(.ref w_CLOSE_SESSION)])) _
  refine XS.astoreN X0.here hx rfl (hb hby at_74) rfl rfl (l' := #[.val (.int p1), .val (.ref b1), .val (.int 7), .val (.ref w_CLOSE_SESSION), .unset, .unset, .unset]) rfl ?_
  show Steps p.tables e below (T0.setTop (mkF m 75 #[.val (.int p1), .val (.ref b1), .val (.int 7), .val (.ref w_CLOSE_SESSION), .unset, .unset, .unset] [])) _
  refine XS.aloadN X0.here hx rfl (hb hby at_75) rfl rfl ?_
  show Steps p.tables e below (T0.setTop (mkF m 76 #[.val (.int p1), .val (.ref b1), .val (.int 7), .val (.ref w_CLOSE_SESSION), .unset, .unset, .unset] [(.ref w_CLOSE_SESSION)])) _
  refine st1.trans ?_
  show Steps p.tables e below (T1.setTop (mkF m 79 #[.val (.int p1), .val (.ref b1), .val (.int 7), .val (.ref w_CLOSE_SESSION), .unset, .unset, .unset] [(.int (-11))])) _
  refine XS.istore X1.here hx rfl (hb hby at_79) rfl (l' := #[.val (.int p1), .val (.ref b1), .val (.int 7), .val (.ref w_CLOSE_SESSION), .val (.int (-11)), .unset, .unset]) rfl ?_
  show Steps p.tables e below (T1.setTop (mkF m 81 #[.val (.int p1), .val (.ref b1), .val (.int 7), .val (.ref w_CLOSE_SESSION), .val (.int (-11)), .unset, .unset] [])) _
  refine XS.iload X1.here hx rfl (hb hby at_81) rfl ?_
  show Steps p.tables e below (T1.setTop (mkF m 83 #[.val (.int p1), .val (.ref b1), .val (.int 7), .val (.ref w_CLOSE_SESSION), .val (.int (-11)), .unset, .unset] [(.int (-11))])) _
  refine XS.iconst X1.here hx rfl (hb hby at_83) ?_
  show Steps p.tables e below (T1.setTop (mkF m 84 #[.val (.int p1), .val (.ref b1), .val (.int 7), .val (.ref w_CLOSE_SESSION), .val (.int (-11)), .unset, .unset] [(.int 1), (.int (-11))])) _
  refine XS.icmpNo X1.here hx rfl (hb hby at_84) rfl (feq (by decide : ¬ ((-11 : Int32) = (1 : Int32)))).1 ?_
  show Steps p.tables e below (T1.setTop (mkF m 87 #[.val (.int p1), .val (.ref b1), .val (.int 7), .val (.ref w_CLOSE_SESSION), .val (.int (-11)), .unset, .unset] [])) _
  refine XS.iload X1.here hx rfl (hb hby at_87) rfl ?_
  show Steps p.tables e below (T1.setTop (mkF m 89 #[.val (.int p1), .val (.ref b1), .val (.int 7), .val (.ref w_CLOSE_SESSION), .val (.int (-11)), .unset, .unset] [(.int (-11))])) _
  refine XS.iconst X1.here hx rfl (hb hby at_89) ?_
  show Steps p.tables e below (T1.setTop (mkF m 90 #[.val (.int p1), .val (.ref b1), .val (.int 7), .val (.ref w_CLOSE_SESSION), .val (.int (-11)), .unset, .unset] [(.int 2), (.int (-11))])) _
  refine XS.icmpNo X1.here hx rfl (hb hby at_90) rfl (feq (by decide : ¬ ((-11 : Int32) = (2 : Int32)))).1 ?_
  show Steps p.tables e below (T1.setTop (mkF m 93 #[.val (.int p1), .val (.ref b1), .val (.int 7), .val (.ref w_CLOSE_SESSION), .val (.int (-11)), .unset, .unset] [])) _
  refine XS.iload X1.here hx rfl (hb hby at_93) rfl ?_
  show Steps p.tables e below (T1.setTop (mkF m 95 #[.val (.int p1), .val (.ref b1), .val (.int 7), .val (.ref w_CLOSE_SESSION), .val (.int (-11)), .unset, .unset] [(.int (-11))])) _
  refine XS.iconst X1.here hx rfl (hb hby at_95) ?_
  show Steps p.tables e below (T1.setTop (mkF m 96 #[.val (.int p1), .val (.ref b1), .val (.int 7), .val (.ref w_CLOSE_SESSION), .val (.int (-11)), .unset, .unset] [(.int 5), (.int (-11))])) _
  refine XS.icmpNo X1.here hx rfl (hb hby at_96) rfl (feq (by decide : ¬ ((-11 : Int32) = (5 : Int32)))).1 ?_
  show Steps p.tables e below (T1.setTop (mkF m 99 #[.val (.int p1), .val (.ref b1), .val (.int 7), .val (.ref w_CLOSE_SESSION), .val (.int (-11)), .unset, .unset] [])) _
  refine XS.iload X1.here hx rfl (hb hby at_99) rfl ?_
  show Steps p.tables e below (T1.setTop (mkF m 101 #[.val (.int p1), .val (.ref b1), .val (.int 7), .val (.ref w_CLOSE_SESSION), .val (.int (-11)), .unset, .unset] [(.int (-11))])) _
  refine XS.bipush X1.here hx rfl (hb hby at_101) ?_
  show Steps p.tables e below (T1.setTop (mkF m 103 #[.val (.int p1), .val (.ref b1), .val (.int 7), .val (.ref w_CLOSE_SESSION), .val (.int (-11)), .unset, .unset] [(.int 13), (.int (-11))])) _
  refine XS.icmpYes X1.here hx rfl (pc0 := 103) (pc' := 110) rfl (hb hby at_103) rfl (feq (by decide : ¬ ((-11 : Int32) = (13 : Int32)))).2 (by decide) (by decide) ?_
  show Steps p.tables e below (T1.setTop (mkF m 110 #[.val (.int p1), .val (.ref b1), .val (.int 7), .val (.ref w_CLOSE_SESSION), .val (.int (-11)), .unset, .unset] [])) _
  refine XS.iconst X1.here hx rfl (hb hby at_110) ?_
  show Steps p.tables e below (T1.setTop (mkF m 111 #[.val (.int p1), .val (.ref b1), .val (.int 7), .val (.ref w_CLOSE_SESSION), .val (.int (-11)), .unset, .unset] [(.int 0)])) _
  refine XS.istore X1.here hx rfl (hb hby at_111) rfl (l' := #[.val (.int p1), .val (.ref b1), .val (.int 7), .val (.ref w_CLOSE_SESSION), .val (.int (-11)), .val (.int 0), .unset]) rfl ?_
  show Steps p.tables e below (T1.setTop (mkF m 113 #[.val (.int p1), .val (.ref b1), .val (.int 7), .val (.ref w_CLOSE_SESSION), .val (.int (-11)), .val (.int 0), .unset] [])) _
  refine XS.aloadN X1.here hx rfl (hb hby at_113) rfl rfl ?_
  show Steps p.tables e below (T1.setTop (mkF m 114 #[.val (.int p1), .val (.ref b1), .val (.int 7), .val (.ref w_CLOSE_SESSION), .val (.int (-11)), .val (.int 0), .unset] [(.ref w_CLOSE_SESSION)])) _
  refine st2.trans ?_
  show Steps p.tables e below (T2.setTop (mkF m 117 #[.val (.int p1), .val (.ref b1), .val (.int 7), .val (.ref w_CLOSE_SESSION), .val (.int (-11)), .val (.int 0), .unset] [(.int 0)])) _
  refine XS.istore X2.here hx rfl (hb hby at_117) rfl (l' := #[.val (.int p1), .val (.ref b1), .val (.int 7), .val (.ref w_CLOSE_SESSION), .val (.int (-11)), .val (.int 0), .val (.int 0)]) rfl ?_
  show Steps p.tables e below (T2.setTop (mkF m 119 #[.val (.int p1), .val (.ref b1), .val (.int 7), .val (.ref w_CLOSE_SESSION), .val (.int (-11)), .val (.int 0), .val (.int 0)] [])) _
  refine XS.iload X2.here hx rfl (hb hby at_119) rfl ?_
  show Steps p.tables e below (T2.setTop (mkF m 121 #[.val (.int p1), .val (.ref b1), .val (.int 7), .val (.ref w_CLOSE_SESSION), .val (.int (-11)), .val (.int 0), .val (.int 0)] [(.int 0)])) _
  refine XS.iload X2.here hx rfl (hb hby at_121) rfl ?_
  show Steps p.tables e below (T2.setTop (mkF m 123 #[.val (.int p1), .val (.ref b1), .val (.int 7), .val (.ref w_CLOSE_SESSION), .val (.int (-11)), .val (.int 0), .val (.int 0)] [(.int 0), (.int 0)])) _
  refine XS.icmpYes X2.here hx rfl (pc0 := 123) (pc' := 128) rfl (hb hby at_123) rfl (teq (by decide : (0 : Int32) = (0 : Int32))).1 (by decide) (by decide) ?_
  show Steps p.tables e below (T2.setTop (mkF m 128 #[.val (.int p1), .val (.ref b1), .val (.int 7), .val (.ref w_CLOSE_SESSION), .val (.int (-11)), .val (.int 0), .val (.int 0)] [])) _
  refine XS.iload X2.here hx rfl (hb hby at_128) rfl ?_
  show Steps p.tables e below (T2.setTop (mkF m 130 #[.val (.int p1), .val (.ref b1), .val (.int 7), .val (.ref w_CLOSE_SESSION), .val (.int (-11)), .val (.int 0), .val (.int 0)] [(.int 0)])) _
  refine XS.ifYes X2.here hx rfl (pc0 := 130) (pc' := 142) rfl (hb hby at_130) rfl ((if0 _ _).trans (teq (by decide : (0 : Int32) = (0 : Int32))).1) (by decide) (by decide) ?_
  show Steps p.tables e below (T2.setTop (mkF m 142 #[.val (.int p1), .val (.ref b1), .val (.int 7), .val (.ref w_CLOSE_SESSION), .val (.int (-11)), .val (.int 0), .val (.int 0)] [])) _
  refine XS.iconst X2.here hx rfl (hb hby at_142) ?_
  show Steps p.tables e below (T2.setTop (mkF m 143 #[.val (.int p1), .val (.ref b1), .val (.int 7), .val (.ref w_CLOSE_SESSION), .val (.int (-11)), .val (.int 0), .val (.int 0)] [(.int 1)])) _
  exact kt
def Q1_w_AUTH (Z : State) (w_AUTH : Addr) (h0 : Heap) (n0 : Nat) (v : Option Value) (h : Heap) (L : List Loc) : Prop := v = some (.int 100) ∧ Fr n0 L ∧ h = h0
set_option maxRecDepth 65536 in
set_option maxHeartbeats 40000000 in
theorem rm1_w_AUTH (l : Launch) (Z : State) (a0 : Array Value) (hw : ∀ d ∈ tables_1, d.before a0 Z = true) (ws : List Jvm.Cond) (w_AUTH : Addr) (h0 : Heap) (n0 : Nat) (Z0 : n0 ≤ h0.size) (F_code_w_AUTH : Fld Z h0 w_AUTH "com/example/epochcast/epochcast/server/Txn$Type" "code" "I" (.int 100)) :
    MetFree l (⟨"com/example/epochcast/epochcast/server/Txn$Type", "code", "()I"⟩ : MethodName) (head1 (Jvm.Cond.code (⟨"com/example/epochcast/epochcast/server/Txn$Type", "code", "()I"⟩ : MethodName) prog_202_method_4_code 1 (some .int) :: ws) ({ frames := 0, cells := 0, slots := 0, locals := 0 } : Room)) (fun a U => a = #[(.ref w_AUTH)] ∧ Z.Warmed39 U.vm ∧ U.heap = h0) (fun _ _ _ _ _ => True) (fun _ U o U' => ∃ v L, o = .returned v ∧ Q1_w_AUTH Z w_AUTH h0 n0 v U'.heap L ∧ FrameEnd U o U' L ({ frames := 0, cells := 0, slots := 0, locals := 0 } : Room).cells ({ frames := 0, cells := 0, slots := 0, locals := 0 } : Room).slots) := by
  refine MetFree.of_bodySF (plainFor_of_name pn_1) hisR ?_
  intro p e s m args below meth c s₁ Bd hml0 hP hK
  obtain ⟨rfl, hZ, hh⟩ := hP
  have hx := Bd.exec
  have hby := Bd.bytes
  have hml : c.maxLocals = 1 := hml0
  have hown : s.vm.findClass "com/example/epochcast/epochcast/server/Txn$Type" = some m.cls := findClass_of_methodNamed Bd.named
  have hnm := (name_of_methodNamed Bd.named Bd.method).1
  have X0 : Stand p l e ({ frames := 0, cells := 0, slots := 0, locals := 0 } : Room) s m #[(.ref w_AUTH)] below meth c s₁ [] 0 0 := Stand.of_body Bd
  have e0 : s₁.heap = h0 := by rw [← hh, Bd.state]; rfl
  have N0 := Fr.nil n0
  have pre0 : ∀ t, Steps p.tables e below (s₁.setTop (mkF m 0 #[.val (.ref w_AUTH)] [])) t → Steps p.tables e below (s₁.setTop (entryFrame m #[(.ref w_AUTH)] 1)) t := fun t k => castTop (by first | (simp [entryFrame, mkF, argsToLocals, Value.category]; done) | rfl) k
  obtain ⟨T1, X1, e1, st1⟩ := getF X0 hx hZ hown (host := "") (Or.inl (hw _ (List.mem_of_getElem? (i := 28) rfl))) Via.refl e0 F_code_w_AUTH (g := (mkF m 1 #[.val (.ref w_AUTH)] [(.ref w_AUTH)])) rfl rfl (hb hby d1_1)
  obtain ⟨fs, hr, hrun, hended, hW, hsame⟩ := X1.leave (v := some (.int 100)) (fun h => by rw [Bd.returns] at h; cases h)
  refine ⟨_, _, pre0 _ ?_, hrun, hended, _, _, rfl, ?_, ⟨_, rfl⟩, hW, hsame.mono (by decide) (by decide)⟩
  · show Steps p.tables e below (s₁.setTop (mkF m 0 #[.val (.ref w_AUTH)] [])) _
    refine XS.aloadN X0.here hx rfl (hb hby d1_0) rfl rfl ?_
    show Steps p.tables e below (s₁.setTop (mkF m 1 #[.val (.ref w_AUTH)] [(.ref w_AUTH)])) _
    refine st1 _ ?_
    show Steps p.tables e below (T1.setTop (mkF m 4 #[.val (.ref w_AUTH)] [(.int 100)])) _
    exact retI X1 hx Bd.returns (hb hby d1_4) hr
  · show Q1_w_AUTH Z w_AUTH h0 n0 _ T1.heap _
    rw [e1]
    exact ⟨rfl, N0, rfl⟩
def Q2_w_AUTH (Z : State) (w_AUTH : Addr) (w_CREATE : Addr) (w_DELETE : Addr) (w_SET_DATA : Addr) (w_CHECK : Addr) (h0 : Heap) (n0 : Nat) (v : Option Value) (h : Heap) (L : List Loc) : Prop := v = some (.int 0) ∧ Fr n0 L ∧ h = h0
set_option maxRecDepth 65536 in
set_option maxHeartbeats 40000000 in
theorem rm2_w_AUTH (l : Launch) (Z : State) (a0 : Array Value) (hw : ∀ d ∈ tables_1, d.before a0 Z = true) (ws : List Jvm.Cond) (w_AUTH : Addr) (w_CREATE : Addr) (w_DELETE : Addr) (w_SET_DATA : Addr) (w_CHECK : Addr) (h0 : Heap) (n0 : Nat) (Z0 : n0 ≤ h0.size) (S_CREATE : Sta Z h0 "com/example/epochcast/epochcast/server/Txn$Type" "CREATE" "Lcom/example/epochcast/epochcast/server/Txn$Type;" (.ref w_CREATE)) (n_w_AUTH_w_CREATE : ¬ (w_AUTH = w_CREATE)) (S_DELETE : Sta Z h0 "com/example/epochcast/epochcast/server/Txn$Type" "DELETE" "Lcom/example/epochcast/epochcast/server/Txn$Type;" (.ref w_DELETE)) (n_w_AUTH_w_DELETE : ¬ (w_AUTH = w_DELETE)) (S_SET_DATA : Sta Z h0 "com/example/epochcast/epochcast/server/Txn$Type" "SET_DATA" "Lcom/example/epochcast/epochcast/server/Txn$Type;" (.ref w_SET_DATA)) (n_w_AUTH_w_SET_DATA : ¬ (w_AUTH = w_SET_DATA)) (S_CHECK : Sta Z h0 "com/example/epochcast/epochcast/server/Txn$Type" "CHECK" "Lcom/example/epochcast/epochcast/server/Txn$Type;" (.ref w_CHECK)) (n_w_AUTH_w_CHECK : ¬ (w_AUTH = w_CHECK)) :
    MetFree l (⟨"com/example/epochcast/epochcast/server/Txn$Type", "isOperation", "()Z"⟩ : MethodName) (head1 (Jvm.Cond.code (⟨"com/example/epochcast/epochcast/server/Txn$Type", "isOperation", "()Z"⟩ : MethodName) prog_202_method_6_code 1 (some .boolean) :: ws) ({ frames := 0, cells := 0, slots := 0, locals := 0 } : Room)) (fun a U => a = #[(.ref w_AUTH)] ∧ Z.Warmed39 U.vm ∧ U.heap = h0) (fun _ _ _ _ _ => True) (fun _ U o U' => ∃ v L, o = .returned v ∧ Q2_w_AUTH Z w_AUTH w_CREATE w_DELETE w_SET_DATA w_CHECK h0 n0 v U'.heap L ∧ FrameEnd U o U' L ({ frames := 0, cells := 0, slots := 0, locals := 0 } : Room).cells ({ frames := 0, cells := 0, slots := 0, locals := 0 } : Room).slots) := by
  refine MetFree.of_bodySF (plainFor_of_name pn_2) hisR ?_
  intro p e s m args below meth c s₁ Bd hml0 hP hK
  obtain ⟨rfl, hZ, hh⟩ := hP
  have hx := Bd.exec
  have hby := Bd.bytes
  have hml : c.maxLocals = 1 := hml0
  have hown : s.vm.findClass "com/example/epochcast/epochcast/server/Txn$Type" = some m.cls := findClass_of_methodNamed Bd.named
  have hnm := (name_of_methodNamed Bd.named Bd.method).1
  have X0 : Stand p l e ({ frames := 0, cells := 0, slots := 0, locals := 0 } : Room) s m #[(.ref w_AUTH)] below meth c s₁ [] 0 0 := Stand.of_body Bd
  have e0 : s₁.heap = h0 := by rw [← hh, Bd.state]; rfl
  have N0 := Fr.nil n0
  have pre0 : ∀ t, Steps p.tables e below (s₁.setTop (mkF m 0 #[.val (.ref w_AUTH)] [])) t → Steps p.tables e below (s₁.setTop (entryFrame m #[(.ref w_AUTH)] 1)) t := fun t k => castTop (by first | (simp [entryFrame, mkF, argsToLocals, Value.category]; done) | rfl) k
  obtain ⟨T1, X1, e1, st1⟩ := getS2 X0 hx hZ hown (host := "") (Or.inl (hw _ (List.mem_of_getElem? (i := 35) rfl))) Via.refl e0 S_CREATE (g := (mkF m 1 #[.val (.ref w_AUTH)] [(.ref w_AUTH)])) rfl (hb hby d2_1)
  obtain ⟨T2, X2, e2, st2⟩ := getS2 X1 hx hZ hown (host := "") (Or.inl (hw _ (List.mem_of_getElem? (i := 44) rfl))) Via.refl e1 S_DELETE (g := (mkF m 8 #[.val (.ref w_AUTH)] [(.ref w_AUTH)])) rfl (hb hby d2_8)
  obtain ⟨T3, X3, e3, st3⟩ := getS2 X2 hx hZ hown (host := "") (Or.inl (hw _ (List.mem_of_getElem? (i := 45) rfl))) Via.refl e2 S_SET_DATA (g := (mkF m 15 #[.val (.ref w_AUTH)] [(.ref w_AUTH)])) rfl (hb hby d2_15)
  obtain ⟨T4, X4, e4, st4⟩ := getS2 X3 hx hZ hown (host := "") (Or.inl (hw _ (List.mem_of_getElem? (i := 46) rfl))) Via.refl e3 S_CHECK (g := (mkF m 22 #[.val (.ref w_AUTH)] [(.ref w_AUTH)])) rfl (hb hby d2_22)
  obtain ⟨fs, hr, hrun, hended, hW, hsame⟩ := X4.leave (v := some (.int 0)) (fun h => by rw [Bd.returns] at h; cases h)
  refine ⟨_, _, pre0 _ ?_, hrun, hended, _, _, rfl, ?_, ⟨_, rfl⟩, hW, hsame.mono (by decide) (by decide)⟩
  · show Steps p.tables e below (s₁.setTop (mkF m 0 #[.val (.ref w_AUTH)] [])) _
    refine XS.aloadN X0.here hx rfl (hb hby d2_0) rfl rfl ?_
    show Steps p.tables e below (s₁.setTop (mkF m 1 #[.val (.ref w_AUTH)] [(.ref w_AUTH)])) _
    refine st1 _ ?_
    show Steps p.tables e below (T1.setTop (mkF m 4 #[.val (.ref w_AUTH)] [(.ref w_CREATE), (.ref w_AUTH)])) _
    refine Jvm.RoadKit.acmp (g := (mkF m 4 #[.val (.ref w_AUTH)] [(.ref w_CREATE), (.ref w_AUTH)])) X1 hx rfl rfl rfl (pc0 := 4) (pc' := 7) (same := false) rfl (hb hby d2_4) rfl (decide_eq_false fun q => n_w_AUTH_w_CREATE (Value.ref.inj q)) (by decide) (by decide) ?_
    show Steps p.tables e below (T1.setTop (mkF m 7 #[.val (.ref w_AUTH)] [])) _
    refine XS.aloadN X1.here hx rfl (hb hby d2_7) rfl rfl ?_
    show Steps p.tables e below (T1.setTop (mkF m 8 #[.val (.ref w_AUTH)] [(.ref w_AUTH)])) _
    refine st2 _ ?_
    show Steps p.tables e below (T2.setTop (mkF m 11 #[.val (.ref w_AUTH)] [(.ref w_DELETE), (.ref w_AUTH)])) _
    refine Jvm.RoadKit.acmp (g := (mkF m 11 #[.val (.ref w_AUTH)] [(.ref w_DELETE), (.ref w_AUTH)])) X2 hx rfl rfl rfl (pc0 := 11) (pc' := 14) (same := false) rfl (hb hby d2_11) rfl (decide_eq_false fun q => n_w_AUTH_w_DELETE (Value.ref.inj q)) (by decide) (by decide) ?_
    show Steps p.tables e below (T2.setTop (mkF m 14 #[.val (.ref w_AUTH)] [])) _
    refine XS.aloadN X2.here hx rfl (hb hby d2_14) rfl rfl ?_
    show Steps p.tables e below (T2.setTop (mkF m 15 #[.val (.ref w_AUTH)] [(.ref w_AUTH)])) _
    refine st3 _ ?_
    show Steps p.tables e below (T3.setTop (mkF m 18 #[.val (.ref w_AUTH)] [(.ref w_SET_DATA), (.ref w_AUTH)])) _
    refine Jvm.RoadKit.acmp (g := (mkF m 18 #[.val (.ref w_AUTH)] [(.ref w_SET_DATA), (.ref w_AUTH)])) X3 hx rfl rfl rfl (pc0 := 18) (pc' := 21) (same := false) rfl (hb hby d2_18) rfl (decide_eq_false fun q => n_w_AUTH_w_SET_DATA (Value.ref.inj q)) (by decide) (by decide) ?_
    show Steps p.tables e below (T3.setTop (mkF m 21 #[.val (.ref w_AUTH)] [])) _
    refine XS.aloadN X3.here hx rfl (hb hby d2_21) rfl rfl ?_
    show Steps p.tables e below (T3.setTop (mkF m 22 #[.val (.ref w_AUTH)] [(.ref w_AUTH)])) _
    refine st4 _ ?_
    show Steps p.tables e below (T4.setTop (mkF m 25 #[.val (.ref w_AUTH)] [(.ref w_CHECK), (.ref w_AUTH)])) _
    refine Jvm.RoadKit.acmp (g := (mkF m 25 #[.val (.ref w_AUTH)] [(.ref w_CHECK), (.ref w_AUTH)])) X4 hx rfl rfl rfl (pc0 := 25) (pc' := 32) (same := false) rfl (hb hby d2_25) rfl (decide_eq_false fun q => n_w_AUTH_w_CHECK (Value.ref.inj q)) (by decide) (by decide) ?_
    show Steps p.tables e below (T4.setTop (mkF m 32 #[.val (.ref w_AUTH)] [])) _
    refine XS.iconst X4.here hx rfl (hb hby d2_32) ?_
    show Steps p.tables e below (T4.setTop (mkF m 33 #[.val (.ref w_AUTH)] [(.int 0)])) _
    exact retN X4 hx (t := .boolean) Bd.returns (by simp) (hb hby d2_33) hr
  · show Q2_w_AUTH Z w_AUTH w_CREATE w_DELETE w_SET_DATA w_CHECK h0 n0 _ T4.heap _
    rw [e4]
    exact ⟨rfl, N0, rfl⟩
set_option maxRecDepth 65536 in
set_option maxHeartbeats 40000000 in
theorem pc0_k8 {p : Program} {l : Launch} {e : Env} {s : State} {m : MethodId} {args : Array Value} {below : List Frame} {meth : Method} {c : Code} {T0 : State} {locs : List Loc} {Z : State} {a0 : Array Value} {h0 : Heap} {n0 : Nat} (p1 : Int32) (b1 : Addr) (k1 : ClassId) (w_CREATE : Addr) (w_DELETE : Addr) (w_SET_DATA : Addr) (w_SET_ACL : Addr) (w_CHECK : Addr) (w_MULTI : Addr) (w_CREATE_SESSION : Addr) (w_CLOSE_SESSION : Addr) (w_AUTH : Addr)
    (X0 : Stand p l e room_1 s m args below meth c T0 locs 1 9) (hx : p.tables.exec = Jvm.exec) (hZ : Z.Warmed39 s.vm) (hw : ∀ d ∈ tables_1, d.before a0 Z = true) (hby : c.code = code) (hml : c.maxLocals = 7) (hown : s.vm.findClass "com/example/epochcast/epochcast/server/TypeIsOperationPinLaw" = some m.cls) (e0 : T0.heap = h0) (Z0 : n0 ≤ h0.size) (N0 : Fr n0 locs) (hk : ((p1 &&& (2147483647 : Int32)) % (9 : Int32)) = (8 : Int32)) (V_b1 : Arv Z h0 b1 k1 (.object "com/example/epochcast/epochcast/server/Txn$Type") (9 : Int32) [(.ref w_CREATE), (.ref w_DELETE), (.ref w_SET_DATA), (.ref w_SET_ACL), (.ref w_CHECK), (.ref w_MULTI), (.ref w_CREATE_SESSION), (.ref w_CLOSE_SESSION), (.ref w_AUTH)] .null) (F_code_w_AUTH : Fld Z h0 w_AUTH "com/example/epochcast/epochcast/server/Txn$Type" "code" "I" (.int 100)) (E_w_AUTH : Exa Z h0 w_AUTH "com/example/epochcast/epochcast/server/Txn$Type") (S_CREATE : Sta Z h0 "com/example/epochcast/epochcast/server/Txn$Type" "CREATE" "Lcom/example/epochcast/epochcast/server/Txn$Type;" (.ref w_CREATE)) (n_w_AUTH_w_CREATE : ¬ (w_AUTH = w_CREATE)) (S_DELETE : Sta Z h0 "com/example/epochcast/epochcast/server/Txn$Type" "DELETE" "Lcom/example/epochcast/epochcast/server/Txn$Type;" (.ref w_DELETE)) (n_w_AUTH_w_DELETE : ¬ (w_AUTH = w_DELETE)) (S_SET_DATA : Sta Z h0 "com/example/epochcast/epochcast/server/Txn$Type" "SET_DATA" "Lcom/example/epochcast/epochcast/server/Txn$Type;" (.ref w_SET_DATA)) (n_w_AUTH_w_SET_DATA : ¬ (w_AUTH = w_SET_DATA)) (S_CHECK : Sta Z h0 "com/example/epochcast/epochcast/server/Txn$Type" "CHECK" "Lcom/example/epochcast/epochcast/server/Txn$Type;" (.ref w_CHECK)) (n_w_AUTH_w_CHECK : ¬ (w_AUTH = w_CHECK)) :
    ∃ (T' : State) (L' : List Loc) (Ls : Array Slot), Stand p l e room_1 s m args below meth c T' L' 1 9 ∧ Fr n0 L' ∧ ∀ target, Steps p.tables e below (T'.setTop (mkF m 143 Ls [(.int 1)])) target → Steps p.tables e below (T0.setTop (mkF m 63 #[.val (.int p1), .val (.ref b1), .unset, .unset, .unset, .unset, .unset] [])) target := by
  obtain ⟨cq1, kq1, q1a, q1b, q1c⟩ := isOf hZ e0 E_w_AUTH
  obtain ⟨_, _, ⟨T1, L1, k1, n1⟩, -, X1, ⟨Lc1, hQ1, l1, y1, z1⟩, st1⟩ := X0.virtualBack hx (y := (⟨"com/example/epochcast/epochcast/server/Txn$Type", "code", "()I"⟩ : MethodName)) (z := (⟨"com/example/epochcast/epochcast/server/Txn$Type", "code", "()I"⟩ : MethodName)) hown (mvT hZ (hw _ (List.mem_of_getElem? (i := 23) rfl))) (mvT hZ (hw _ (List.mem_of_getElem? (i := 24) rfl))) (notFace_of_selects (args := #[]) (mvT hZ (hw _ (List.mem_of_getElem? (i := 26) rfl)))) (mvT hZ (hw _ (List.mem_of_getElem? (i := 26) rfl))) (mvT hZ (hw _ (List.mem_of_getElem? (i := 25) rfl))) (by decide) (backOf (W := 0) (rm1_w_AUTH l Z a0 hw [] w_AUTH h0 n0 Z0 F_code_w_AUTH) hZ (hw _ (List.mem_of_getElem? (i := 27) rfl)) (hw _ (List.mem_of_getElem? (i := 3) rfl)) (by decide) (by decide)) q1a q1c (g := (mkF m 76 #[.val (.int p1), .val (.ref b1), .val (.int 8), .val (.ref w_AUTH), .unset, .unset, .unset] [(.ref w_AUTH)])) rfl (by rw [hml]; rfl) (Steps.refl _) (argsL := []) (rest := []) (lenOf pd___I rfl) rfl (by show 2 * 0 + _ ≤ _; exact Nat.le_of_eq rfl) (hb hby at_76) (fun _ _ => ⟨rfl, e0, (by decide : 1 + 0 ≤ _), (by decide : 9 + 0 ≤ _)⟩)
  dsimp only [Pt.U, Pt.locs, Pt.cells, Pt.slots] at X1 l1 y1 z1 st1 hQ1
  subst l1 y1 z1
  obtain ⟨rfl, N1q, e1⟩ := hQ1
  have N1 := Fr.app N0 N1q
  obtain ⟨cq2, kq2, q2a, q2b, q2c⟩ := isOf hZ e1 E_w_AUTH
  obtain ⟨_, _, ⟨T2, L2, k2, n2⟩, -, X2, ⟨Lc2, hQ2, l2, y2, z2⟩, st2⟩ := X1.virtualBack hx (y := (⟨"com/example/epochcast/epochcast/server/Txn$Type", "isOperation", "()Z"⟩ : MethodName)) (z := (⟨"com/example/epochcast/epochcast/server/Txn$Type", "isOperation", "()Z"⟩ : MethodName)) hown (mvT hZ (hw _ (List.mem_of_getElem? (i := 30) rfl))) (mvT hZ (hw _ (List.mem_of_getElem? (i := 31) rfl))) (notFace_of_selects (args := #[]) (mvT hZ (hw _ (List.mem_of_getElem? (i := 33) rfl)))) (mvT hZ (hw _ (List.mem_of_getElem? (i := 33) rfl))) (mvT hZ (hw _ (List.mem_of_getElem? (i := 32) rfl))) (by decide) (backOf (W := 0) (rm2_w_AUTH l Z a0 hw [] w_AUTH w_CREATE w_DELETE w_SET_DATA w_CHECK h0 n0 Z0 S_CREATE n_w_AUTH_w_CREATE S_DELETE n_w_AUTH_w_DELETE S_SET_DATA n_w_AUTH_w_SET_DATA S_CHECK n_w_AUTH_w_CHECK) hZ (hw _ (List.mem_of_getElem? (i := 34) rfl)) (hw _ (List.mem_of_getElem? (i := 3) rfl)) (by decide) (by decide)) q2a q2c (g := (mkF m 114 #[.val (.int p1), .val (.ref b1), .val (.int 8), .val (.ref w_AUTH), .val (.int 100), .val (.int 0), .unset] [(.ref w_AUTH)])) rfl (by rw [hml]; rfl) (Steps.refl _) (argsL := []) (rest := []) (lenOf pd___Z rfl) rfl (by show 2 * 0 + _ ≤ _; exact Nat.le_of_eq rfl) (hb hby at_114) (fun _ _ => ⟨rfl, e1, (by decide : 1 + 0 ≤ _), (by decide : 9 + 0 ≤ _)⟩)
  dsimp only [Pt.U, Pt.locs, Pt.cells, Pt.slots] at X2 l2 y2 z2 st2 hQ2
  subst l2 y2 z2
  obtain ⟨rfl, N2q, e2⟩ := hQ2
  have N2 := Fr.app N1 N2q
  refine ⟨T2, _, #[.val (.int p1), .val (.ref b1), .val (.int 8), .val (.ref w_AUTH), .val (.int 100), .val (.int 0), .val (.int 0)], X2, N2, fun target kt => ?_⟩
  show Steps p.tables e below (T0.setTop (mkF m 63 #[.val (.int p1), .val (.ref b1), .unset, .unset, .unset, .unset, .unset] [])) _
  refine XS.iloadN X0.here hx rfl (hb hby at_63) rfl ?_
  show Steps p.tables e below (T0.setTop (mkF m 64 #[.val (.int p1), .val (.ref b1), .unset, .unset, .unset, .unset, .unset] [(.int p1)])) _
  refine X0.ldcInt hx hown (mvT hZ (hw _ (List.mem_of_getElem? (i := 22) rfl))) (g := (mkF m 64 #[.val (.int p1), .val (.ref b1), .unset, .unset, .unset, .unset, .unset] [(.int p1)])) rfl (hb hby at_64) _ ?_
  show Steps p.tables e below (T0.setTop (mkF m 66 #[.val (.int p1), .val (.ref b1), .unset, .unset, .unset, .unset, .unset] [(.int 2147483647), (.int p1)])) _
  refine XS.iand X0.here hx rfl (hb hby at_66) rfl ?_
  show Steps p.tables e below (T0.setTop (mkF m 67 #[.val (.int p1), .val (.ref b1), .unset, .unset, .unset, .unset, .unset] [(.int (p1 &&& (2147483647 : Int32)))])) _
  refine XS.bipush X0.here hx rfl (hb hby at_67) ?_
  show Steps p.tables e below (T0.setTop (mkF m 69 #[.val (.int p1), .val (.ref b1), .unset, .unset, .unset, .unset, .unset] [(.int 9), (.int (p1 &&& (2147483647 : Int32)))])) _
  refine iremM X0 hx rfl (hb hby at_69) rfl (by decide) ?_
  show Steps p.tables e below (T0.setTop (mkF m 70 #[.val (.int p1), .val (.ref b1), .unset, .unset, .unset, .unset, .unset] [(.int ((p1 &&& (2147483647 : Int32)) % (9 : Int32)))])) _
  rw [hk]
  show Steps p.tables e below (T0.setTop (mkF m 70 #[.val (.int p1), .val (.ref b1), .unset, .unset, .unset, .unset, .unset] [(.int 8)])) _
  refine XS.istoreN X0.here hx rfl (hb hby at_70) rfl (l' := #[.val (.int p1), .val (.ref b1), .val (.int 8), .unset, .unset, .unset, .unset]) rfl ?_
  show Steps p.tables e below (T0.setTop (mkF m 71 #[.val (.int p1), .val (.ref b1), .val (.int 8), .unset, .unset, .unset, .unset] [])) _
  refine XS.aloadN X0.here hx rfl (hb hby at_71) rfl rfl ?_
  show Steps p.tables e below (T0.setTop (mkF m 72 #[.val (.int p1), .val (.ref b1), .val (.int 8), .unset, .unset, .unset, .unset] [(.ref b1)])) _
  refine XS.iloadN X0.here hx rfl (hb hby at_72) rfl ?_
  show Steps p.tables e below (T0.setTop (mkF m 73 #[.val (.int p1), .val (.ref b1), .val (.int 8), .unset, .unset, .unset, .unset] [(.int 8), (.ref b1)])) _
  refine own_ldR X0 hx hZ e0 V_b1 (j := (8 : Int32)) ⟨by decide, by decide⟩ rfl (g := (mkF m 73 #[.val (.int p1), .val (.ref b1), .val (.int 8), .unset, .unset, .unset, .unset] [(.int 8), (.ref b1)])) rfl rfl (hb hby at_73) _ ?_
  show Steps p.tables e below (T0.setTop (mkF m 74 #[.val (.int p1), .val (.ref b1), .val (.int 8), .unset, .unset, .unset, .unset] [(.ref w_AUTH)])) _
  refine XS.astoreN X0.here hx rfl (hb hby at_74) rfl rfl (l' := #[.val (.int p1), .val (.ref b1), .val (.int 8), .val (.ref w_AUTH), .unset, .unset, .unset]) rfl ?_
  show Steps p.tables e below (T0.setTop (mkF m 75 #[.val (.int p1), .val (.ref b1), .val (.int 8), .val (.ref w_AUTH), .unset, .unset, .unset] [])) _
  refine XS.aloadN X0.here hx rfl (hb hby at_75) rfl rfl ?_
  show Steps p.tables e below (T0.setTop (mkF m 76 #[.val (.int p1), .val (.ref b1), .val (.int 8), .val (.ref w_AUTH), .unset, .unset, .unset] [(.ref w_AUTH)])) _
  refine st1.trans ?_
  show Steps p.tables e below (T1.setTop (mkF m 79 #[.val (.int p1), .val (.ref b1), .val (.int 8), .val (.ref w_AUTH), .unset, .unset, .unset] [(.int 100)])) _
  refine XS.istore X1.here hx rfl (hb hby at_79) rfl (l' := #[.val (.int p1), .val (.ref b1), .val (.int 8), .val (.ref w_AUTH), .val (.int 100), .unset, .unset]) rfl ?_
  show Steps p.tables e below (T1.setTop (mkF m 81 #[.val (.int p1), .val (.ref b1), .val (.int 8), .val (.ref w_AUTH), .val (.int 100), .unset, .unset] [])) _
  refine XS.iload X1.here hx rfl (hb hby at_81) rfl ?_
  show Steps p.tables e below (T1.setTop (mkF m 83 #[.val (.int p1), .val (.ref b1), .val (.int 8), .val (.ref w_AUTH), .val (.int 100), .unset, .unset] [(.int 100)])) _
  refine XS.iconst X1.here hx rfl (hb hby at_83) ?_
  show Steps p.tables e below (T1.setTop (mkF m 84 #[.val (.int p1), .val (.ref b1), .val (.int 8), .val (.ref w_AUTH), .val (.int 100), .unset, .unset] [(.int 1), (.int 100)])) _
  refine XS.icmpNo X1.here hx rfl (hb hby at_84) rfl (feq (by decide : ¬ ((100 : Int32) = (1 : Int32)))).1 ?_
  show Steps p.tables e below (T1.setTop (mkF m 87 #[.val (.int p1), .val (.ref b1), .val (.int 8), .val (.ref w_AUTH), .val (.int 100), .unset, .unset] [])) _
  refine XS.iload X1.here hx rfl (hb hby at_87) rfl ?_
  show Steps p.tables e below (T1.setTop (mkF m 89 #[.val (.int p1), .val (.ref b1), .val (.int 8), .val (.ref w_AUTH), .val (.int 100), .unset, .unset] [(.int 100)])) _
  refine XS.iconst X1.here hx rfl (hb hby at_89) ?_
  show Steps p.tables e below (T1.setTop (mkF m 90 #[.val (.int p1), .val (.ref b1), .val (.int 8), .val (.ref w_AUTH), .val (.int 100), .unset, .unset] [(.int 2), (.int 100)])) _
  refine XS.icmpNo X1.here hx rfl (hb hby at_90) rfl (feq (by decide : ¬ ((100 : Int32) = (2 : Int32)))).1 ?_
  show Steps p.tables e below (T1.setTop (mkF m 93 #[.val (.int p1), .val (.ref b1), .val (.int 8), .val (.ref w_AUTH), .val (.int 100), .unset, .unset] [])) _
  refine XS.iload X1.here hx rfl (hb hby at_93) rfl ?_
  show Steps p.tables e below (T1.setTop (mkF m 95 #[.val (.int p1), .val (.ref b1), .val (.int 8), .val (.ref w_AUTH), .val (.int 100), .unset, .unset] [(.int 100)])) _
  refine XS.iconst X1.here hx rfl (hb hby at_95) ?_
  show Steps p.tables e below (T1.setTop (mkF m 96 #[.val (.int p1), .val (.ref b1), .val (.int 8), .val (.ref w_AUTH), .val (.int 100), .unset, .unset] [(.int 5), (.int 100)])) _
  refine XS.icmpNo X1.here hx rfl (hb hby at_96) rfl (feq (by decide : ¬ ((100 : Int32) = (5 : Int32)))).1 ?_
  show Steps p.tables e below (T1.setTop (mkF m 99 #[.val (.int p1), .val (.ref b1), .val (.int 8), .val (.ref w_AUTH), .val (.int 100), .unset, .unset] [])) _
  refine XS.iload X1.here hx rfl (hb hby at_99) rfl ?_
  show Steps p.tables e below (T1.setTop (mkF m 101 #[.val (.int p1), .val (.ref b1), .val (.int 8), .val (.ref w_AUTH), .val (.int 100), .unset, .unset] [(.int 100)])) _
  refine XS.bipush X1.here hx rfl (hb hby at_101) ?_
  show Steps p.tables e below (T1.setTop (mkF m 103 #[.val (.int p1), .val (.ref b1), .val (.int 8), .val (.ref w_AUTH), .val (.int 100), .unset, .unset] [(.int 13), (.int 100)])) _
  refine XS.icmpYes X1.here hx rfl (pc0 := 103) (pc' := 110) rfl (hb hby at_103) rfl (feq (by decide : ¬ ((100 : Int32) = (13 : Int32)))).2 (by decide) (by decide) ?_
  show Steps p.tables e below (T1.setTop (mkF m 110 #[.val (.int p1), .val (.ref b1), .val (.int 8), .val (.ref w_AUTH), .val (.int 100), .unset, .unset] [])) _
  refine XS.iconst X1.here hx rfl (hb hby at_110) ?_
  show Steps p.tables e below (T1.setTop (mkF m 111 #[.val (.int p1), .val (.ref b1), .val (.int 8), .val (.ref w_AUTH), .val (.int 100), .unset, .unset] [(.int 0)])) _
  refine XS.istore X1.here hx rfl (hb hby at_111) rfl (l' := #[.val (.int p1), .val (.ref b1), .val (.int 8), .val (.ref w_AUTH), .val (.int 100), .val (.int 0), .unset]) rfl ?_
  show Steps p.tables e below (T1.setTop (mkF m 113 #[.val (.int p1), .val (.ref b1), .val (.int 8), .val (.ref w_AUTH), .val (.int 100), .val (.int 0), .unset] [])) _
  refine XS.aloadN X1.here hx rfl (hb hby at_113) rfl rfl ?_
  show Steps p.tables e below (T1.setTop (mkF m 114 #[.val (.int p1), .val (.ref b1), .val (.int 8), .val (.ref w_AUTH), .val (.int 100), .val (.int 0), .unset] [(.ref w_AUTH)])) _
  refine st2.trans ?_
  show Steps p.tables e below (T2.setTop (mkF m 117 #[.val (.int p1), .val (.ref b1), .val (.int 8), .val (.ref w_AUTH), .val (.int 100), .val (.int 0), .unset] [(.int 0)])) _
  refine XS.istore X2.here hx rfl (hb hby at_117) rfl (l' := #[.val (.int p1), .val (.ref b1), .val (.int 8), .val (.ref w_AUTH), .val (.int 100), .val (.int 0), .val (.int 0)]) rfl ?_
  show Steps p.tables e below (T2.setTop (mkF m 119 #[.val (.int p1), .val (.ref b1), .val (.int 8), .val (.ref w_AUTH), .val (.int 100), .val (.int 0), .val (.int 0)] [])) _
  refine XS.iload X2.here hx rfl (hb hby at_119) rfl ?_
  show Steps p.tables e below (T2.setTop (mkF m 121 #[.val (.int p1), .val (.ref b1), .val (.int 8), .val (.ref w_AUTH), .val (.int 100), .val (.int 0), .val (.int 0)] [(.int 0)])) _
  refine XS.iload X2.here hx rfl (hb hby at_121) rfl ?_
  show Steps p.tables e below (T2.setTop (mkF m 123 #[.val (.int p1), .val (.ref b1), .val (.int 8), .val (.ref w_AUTH), .val (.int 100), .val (.int 0), .val (.int 0)] [(.int 0), (.int 0)])) _
  refine XS.icmpYes X2.here hx rfl (pc0 := 123) (pc' := 128) rfl (hb hby at_123) rfl (teq (by decide : (0 : Int32) = (0 : Int32))).1 (by decide) (by decide) ?_
  show Steps p.tables e below (T2.setTop (mkF m 128 #[.val (.int p1), .val (.ref b1), .val (.int 8), .val (.ref w_AUTH), .val (.int 100), .val (.int 0), .val (.int 0)] [])) _
  refine XS.iload X2.here hx rfl (hb hby at_128) rfl ?_
  show Steps p.tables e below (T2.setTop (mkF m 130 #[.val (.int p1), .val (.ref b1), .val (.int 8), .val (.ref w_AUTH), .val (.int 100), .val (.int 0), .val (.int 0)] [(.int 0)])) _
  refine XS.ifYes X2.here hx rfl (pc0 := 130) (pc' := 142) rfl (hb hby at_130) rfl ((if0 _ _).trans (teq (by decide : (0 : Int32) = (0 : Int32))).1) (by decide) (by decide) ?_
  show Steps p.tables e below (T2.setTop (mkF m 142 #[.val (.int p1), .val (.ref b1), .val (.int 8), .val (.ref w_AUTH), .val (.int 100), .val (.int 0), .val (.int 0)] [])) _
  refine XS.iconst X2.here hx rfl (hb hby at_142) ?_
  show Steps p.tables e below (T2.setTop (mkF m 143 #[.val (.int p1), .val (.ref b1), .val (.int 8), .val (.ref w_AUTH), .val (.int 100), .val (.int 0), .val (.int 0)] [(.int 1)])) _
  exact kt
def Q0_all (Z : State) (p1 : Int32) (w_CREATE : Addr) (w_DELETE : Addr) (w_SET_DATA : Addr) (w_SET_ACL : Addr) (w_CHECK : Addr) (w_MULTI : Addr) (w_CREATE_SESSION : Addr) (w_CLOSE_SESSION : Addr) (w_AUTH : Addr) (h0 : Heap) (n0 : Nat) (v : Option Value) (h : Heap) (L : List Loc) : Prop := v = some (.int (1 : Int32)) ∧ Fr n0 L ∧ True
set_option maxRecDepth 65536 in
set_option maxHeartbeats 40000000 in
theorem rm0_all (l : Launch) (Z : State) (a0 : Array Value) (hw : ∀ d ∈ tables_1, d.before a0 Z = true) (ws : List Jvm.Cond) (p1 : Int32) (w_CREATE : Addr) (w_DELETE : Addr) (w_SET_DATA : Addr) (w_SET_ACL : Addr) (w_CHECK : Addr) (w_MULTI : Addr) (w_CREATE_SESSION : Addr) (w_CLOSE_SESSION : Addr) (w_AUTH : Addr) (h0 : Heap) (n0 : Nat) (Z0 : n0 ≤ h0.size) (S_CREATE : Sta Z h0 "com/example/epochcast/epochcast/server/Txn$Type" "CREATE" "Lcom/example/epochcast/epochcast/server/Txn$Type;" (.ref w_CREATE)) (E_w_CREATE : Exa Z h0 w_CREATE "com/example/epochcast/epochcast/server/Txn$Type") (S_DELETE : Sta Z h0 "com/example/epochcast/epochcast/server/Txn$Type" "DELETE" "Lcom/example/epochcast/epochcast/server/Txn$Type;" (.ref w_DELETE)) (E_w_DELETE : Exa Z h0 w_DELETE "com/example/epochcast/epochcast/server/Txn$Type") (S_SET_DATA : Sta Z h0 "com/example/epochcast/epochcast/server/Txn$Type" "SET_DATA" "Lcom/example/epochcast/epochcast/server/Txn$Type;" (.ref w_SET_DATA)) (E_w_SET_DATA : Exa Z h0 w_SET_DATA "com/example/epochcast/epochcast/server/Txn$Type") (S_SET_ACL : Sta Z h0 "com/example/epochcast/epochcast/server/Txn$Type" "SET_ACL" "Lcom/example/epochcast/epochcast/server/Txn$Type;" (.ref w_SET_ACL)) (E_w_SET_ACL : Exa Z h0 w_SET_ACL "com/example/epochcast/epochcast/server/Txn$Type") (S_CHECK : Sta Z h0 "com/example/epochcast/epochcast/server/Txn$Type" "CHECK" "Lcom/example/epochcast/epochcast/server/Txn$Type;" (.ref w_CHECK)) (E_w_CHECK : Exa Z h0 w_CHECK "com/example/epochcast/epochcast/server/Txn$Type") (S_MULTI : Sta Z h0 "com/example/epochcast/epochcast/server/Txn$Type" "MULTI" "Lcom/example/epochcast/epochcast/server/Txn$Type;" (.ref w_MULTI)) (E_w_MULTI : Exa Z h0 w_MULTI "com/example/epochcast/epochcast/server/Txn$Type") (S_CREATE_SESSION : Sta Z h0 "com/example/epochcast/epochcast/server/Txn$Type" "CREATE_SESSION" "Lcom/example/epochcast/epochcast/server/Txn$Type;" (.ref w_CREATE_SESSION)) (E_w_CREATE_SESSION : Exa Z h0 w_CREATE_SESSION "com/example/epochcast/epochcast/server/Txn$Type") (S_CLOSE_SESSION : Sta Z h0 "com/example/epochcast/epochcast/server/Txn$Type" "CLOSE_SESSION" "Lcom/example/epochcast/epochcast/server/Txn$Type;" (.ref w_CLOSE_SESSION)) (E_w_CLOSE_SESSION : Exa Z h0 w_CLOSE_SESSION "com/example/epochcast/epochcast/server/Txn$Type") (S_AUTH : Sta Z h0 "com/example/epochcast/epochcast/server/Txn$Type" "AUTH" "Lcom/example/epochcast/epochcast/server/Txn$Type;" (.ref w_AUTH)) (E_w_AUTH : Exa Z h0 w_AUTH "com/example/epochcast/epochcast/server/Txn$Type") (F_code_w_CREATE : Fld Z h0 w_CREATE "com/example/epochcast/epochcast/server/Txn$Type" "code" "I" (.int 1)) (n_w_CREATE_w_CREATE_SESSION : ¬ (w_CREATE = w_CREATE_SESSION)) (n_w_CLOSE_SESSION_w_CREATE : ¬ (w_CLOSE_SESSION = w_CREATE)) (n_w_AUTH_w_CREATE : ¬ (w_AUTH = w_CREATE)) (F_code_w_DELETE : Fld Z h0 w_DELETE "com/example/epochcast/epochcast/server/Txn$Type" "code" "I" (.int 2)) (n_w_CREATE_w_DELETE : ¬ (w_CREATE = w_DELETE)) (n_w_CREATE_SESSION_w_DELETE : ¬ (w_CREATE_SESSION = w_DELETE)) (n_w_CLOSE_SESSION_w_DELETE : ¬ (w_CLOSE_SESSION = w_DELETE)) (n_w_AUTH_w_DELETE : ¬ (w_AUTH = w_DELETE)) (F_code_w_SET_DATA : Fld Z h0 w_SET_DATA "com/example/epochcast/epochcast/server/Txn$Type" "code" "I" (.int 5)) (n_w_CREATE_w_SET_DATA : ¬ (w_CREATE = w_SET_DATA)) (n_w_DELETE_w_SET_DATA : ¬ (w_DELETE = w_SET_DATA)) (n_w_CREATE_SESSION_w_SET_DATA : ¬ (w_CREATE_SESSION = w_SET_DATA)) (n_w_CLOSE_SESSION_w_SET_DATA : ¬ (w_CLOSE_SESSION = w_SET_DATA)) (n_w_AUTH_w_SET_DATA : ¬ (w_AUTH = w_SET_DATA)) (F_code_w_SET_ACL : Fld Z h0 w_SET_ACL "com/example/epochcast/epochcast/server/Txn$Type" "code" "I" (.int 7)) (n_w_CREATE_w_SET_ACL : ¬ (w_CREATE = w_SET_ACL)) (n_w_DELETE_w_SET_ACL : ¬ (w_DELETE = w_SET_ACL)) (n_w_SET_ACL_w_SET_DATA : ¬ (w_SET_ACL = w_SET_DATA)) (n_w_CHECK_w_SET_ACL : ¬ (w_CHECK = w_SET_ACL)) (F_code_w_CHECK : Fld Z h0 w_CHECK "com/example/epochcast/epochcast/server/Txn$Type" "code" "I" (.int 13)) (n_w_CHECK_w_CREATE : ¬ (w_CHECK = w_CREATE)) (n_w_CHECK_w_DELETE : ¬ (w_CHECK = w_DELETE)) (n_w_CHECK_w_SET_DATA : ¬ (w_CHECK = w_SET_DATA)) (n_w_CHECK_w_CREATE_SESSION : ¬ (w_CHECK = w_CREATE_SESSION)) (n_w_CHECK_w_CLOSE_SESSION : ¬ (w_CHECK = w_CLOSE_SESSION)) (n_w_AUTH_w_CHECK : ¬ (w_AUTH = w_CHECK)) (F_code_w_MULTI : Fld Z h0 w_MULTI "com/example/epochcast/epochcast/server/Txn$Type" "code" "I" (.int 14)) (n_w_CREATE_w_MULTI : ¬ (w_CREATE = w_MULTI)) (n_w_DELETE_w_MULTI : ¬ (w_DELETE = w_MULTI)) (n_w_MULTI_w_SET_DATA : ¬ (w_MULTI = w_SET_DATA)) (n_w_CHECK_w_MULTI : ¬ (w_CHECK = w_MULTI)) (F_code_w_CREATE_SESSION : Fld Z h0 w_CREATE_SESSION "com/example/epochcast/epochcast/server/Txn$Type" "code" "I" (.int (-10))) (F_code_w_CLOSE_SESSION : Fld Z h0 w_CLOSE_SESSION "com/example/epochcast/epochcast/server/Txn$Type" "code" "I" (.int (-11))) (F_code_w_AUTH : Fld Z h0 w_AUTH "com/example/epochcast/epochcast/server/Txn$Type" "code" "I" (.int 100)) :
    MetFree l x (head1 (Jvm.Cond.code x code maxLocals ret :: ws) room_1) (fun a U => a = #[(.int p1)] ∧ Z.Warmed39 U.vm ∧ U.heap = h0) (fun _ _ _ _ _ => True) (fun _ U o U' => ∃ v L, o = .returned v ∧ Q0_all Z p1 w_CREATE w_DELETE w_SET_DATA w_SET_ACL w_CHECK w_MULTI w_CREATE_SESSION w_CLOSE_SESSION w_AUTH h0 n0 v U'.heap L ∧ FrameEnd U o U' L room_1.cells room_1.slots) := by
  refine MetFree.of_bodySF (plainFor_of_name pn_0) hisR ?_
  intro p e s m args below meth c s₁ Bd hml0 hP hK
  obtain ⟨rfl, hZ, hh⟩ := hP
  have hx := Bd.exec
  have hby := Bd.bytes
  have hml : c.maxLocals = 7 := hml0
  have hown : s.vm.findClass "com/example/epochcast/epochcast/server/TypeIsOperationPinLaw" = some m.cls := findClass_of_methodNamed Bd.named
  have hnm := (name_of_methodNamed Bd.named Bd.method).1
  have X0 : Stand p l e room_1 s m #[(.int p1)] below meth c s₁ [] 0 0 := Stand.of_body Bd
  have e0 : s₁.heap = h0 := by rw [← hh, Bd.state]; rfl
  have N0 := Fr.nil n0
  have pre0 : ∀ t, Steps p.tables e below (s₁.setTop (mkF m 0 #[.val (.int p1), .unset, .unset, .unset, .unset, .unset, .unset] [])) t → Steps p.tables e below (s₁.setTop (entryFrame m #[(.int p1)] maxLocals)) t := fun t k => castTop (by first | (simp [entryFrame, mkF, argsToLocals, Value.category, maxLocals]; done) | rfl) k
  have hm : (p1 &&& (2147483647 : Int32)).toInt = p1.toInt % (2 ^ 31 : Nat) := c_mask p1 2147483647 31 (by decide) (by decide)
  have hr : ((p1 &&& (2147483647 : Int32)) % (9 : Int32)).toInt = (p1 &&& (2147483647 : Int32)).toInt % 9 := (c_irem _ (9 : Int32) 9 (by decide)).1 (by omega)
  obtain ⟨T1, h1, L1, b1, k1, X1, e1, K1, N1, sz_b1, V_b1, O_b1, st1⟩ := pc0_pre p1 w_CREATE w_DELETE w_SET_DATA w_SET_ACL w_CHECK w_MULTI w_CREATE_SESSION w_CLOSE_SESSION w_AUTH X0 hx hZ hw hby hml hown e0 Z0 N0 S_CREATE E_w_CREATE S_DELETE E_w_DELETE S_SET_DATA E_w_SET_DATA S_SET_ACL E_w_SET_ACL S_CHECK E_w_CHECK S_MULTI E_w_MULTI S_CREATE_SESSION E_w_CREATE_SESSION S_CLOSE_SESSION E_w_CLOSE_SESSION S_AUTH E_w_AUTH
  have Z1 : n0 ≤ h1.size := Nat.le_trans Z0 K1.1
  have tail : ∃ (T' : State) (L' : List Loc) (Ls : Array Slot), Stand p l e room_1 s m #[(.int p1)] below meth c T' L' 1 9 ∧ Fr n0 L' ∧ ∀ target, Steps p.tables e below (T'.setTop (mkF m 143 Ls [(.int (1 : Int32))])) target → Steps p.tables e below (T1.setTop (mkF m 63 #[.val (.int p1), .val (.ref b1), .unset, .unset, .unset, .unset, .unset] [])) target := by
    rcases own_split9 (x := ((p1 &&& (2147483647 : Int32)) % (9 : Int32))) (by omega) (by omega) with hk | hk | hk | hk | hk | hk | hk | hk | hk
    · exact pc0_k0 p1 b1 k1 w_CREATE w_DELETE w_SET_DATA w_SET_ACL w_CHECK w_MULTI w_CREATE_SESSION w_CLOSE_SESSION w_AUTH X1 hx hZ hw hby hml hown e1 Z1 N1 hk V_b1 (F_code_w_CREATE.keep K1 nin0) (E_w_CREATE.keep K1) (own_sta_keep S_CREATE K1) (own_sta_keep S_CREATE_SESSION K1) n_w_CREATE_w_CREATE_SESSION (own_sta_keep S_CLOSE_SESSION K1) n_w_CLOSE_SESSION_w_CREATE (own_sta_keep S_AUTH K1) n_w_AUTH_w_CREATE
    · exact pc0_k1 p1 b1 k1 w_CREATE w_DELETE w_SET_DATA w_SET_ACL w_CHECK w_MULTI w_CREATE_SESSION w_CLOSE_SESSION w_AUTH X1 hx hZ hw hby hml hown e1 Z1 N1 hk V_b1 (F_code_w_DELETE.keep K1 nin0) (E_w_DELETE.keep K1) (own_sta_keep S_CREATE K1) n_w_CREATE_w_DELETE (own_sta_keep S_DELETE K1) (own_sta_keep S_CREATE_SESSION K1) n_w_CREATE_SESSION_w_DELETE (own_sta_keep S_CLOSE_SESSION K1) n_w_CLOSE_SESSION_w_DELETE (own_sta_keep S_AUTH K1) n_w_AUTH_w_DELETE
    · exact pc0_k2 p1 b1 k1 w_CREATE w_DELETE w_SET_DATA w_SET_ACL w_CHECK w_MULTI w_CREATE_SESSION w_CLOSE_SESSION w_AUTH X1 hx hZ hw hby hml hown e1 Z1 N1 hk V_b1 (F_code_w_SET_DATA.keep K1 nin0) (E_w_SET_DATA.keep K1) (own_sta_keep S_CREATE K1) n_w_CREATE_w_SET_DATA (own_sta_keep S_DELETE K1) n_w_DELETE_w_SET_DATA (own_sta_keep S_SET_DATA K1) (own_sta_keep S_CREATE_SESSION K1) n_w_CREATE_SESSION_w_SET_DATA (own_sta_keep S_CLOSE_SESSION K1) n_w_CLOSE_SESSION_w_SET_DATA (own_sta_keep S_AUTH K1) n_w_AUTH_w_SET_DATA
    · exact pc0_k3 p1 b1 k1 w_CREATE w_DELETE w_SET_DATA w_SET_ACL w_CHECK w_MULTI w_CREATE_SESSION w_CLOSE_SESSION w_AUTH X1 hx hZ hw hby hml hown e1 Z1 N1 hk V_b1 (F_code_w_SET_ACL.keep K1 nin0) (E_w_SET_ACL.keep K1) (own_sta_keep S_CREATE K1) n_w_CREATE_w_SET_ACL (own_sta_keep S_DELETE K1) n_w_DELETE_w_SET_ACL (own_sta_keep S_SET_DATA K1) n_w_SET_ACL_w_SET_DATA (own_sta_keep S_CHECK K1) n_w_CHECK_w_SET_ACL
    · exact pc0_k4 p1 b1 k1 w_CREATE w_DELETE w_SET_DATA w_SET_ACL w_CHECK w_MULTI w_CREATE_SESSION w_CLOSE_SESSION w_AUTH X1 hx hZ hw hby hml hown e1 Z1 N1 hk V_b1 (F_code_w_CHECK.keep K1 nin0) (E_w_CHECK.keep K1) (own_sta_keep S_CREATE K1) n_w_CHECK_w_CREATE (own_sta_keep S_DELETE K1) n_w_CHECK_w_DELETE (own_sta_keep S_SET_DATA K1) n_w_CHECK_w_SET_DATA (own_sta_keep S_CHECK K1) (own_sta_keep S_CREATE_SESSION K1) n_w_CHECK_w_CREATE_SESSION (own_sta_keep S_CLOSE_SESSION K1) n_w_CHECK_w_CLOSE_SESSION (own_sta_keep S_AUTH K1) n_w_AUTH_w_CHECK
    · exact pc0_k5 p1 b1 k1 w_CREATE w_DELETE w_SET_DATA w_SET_ACL w_CHECK w_MULTI w_CREATE_SESSION w_CLOSE_SESSION w_AUTH X1 hx hZ hw hby hml hown e1 Z1 N1 hk V_b1 (F_code_w_MULTI.keep K1 nin0) (E_w_MULTI.keep K1) (own_sta_keep S_CREATE K1) n_w_CREATE_w_MULTI (own_sta_keep S_DELETE K1) n_w_DELETE_w_MULTI (own_sta_keep S_SET_DATA K1) n_w_MULTI_w_SET_DATA (own_sta_keep S_CHECK K1) n_w_CHECK_w_MULTI
    · exact pc0_k6 p1 b1 k1 w_CREATE w_DELETE w_SET_DATA w_SET_ACL w_CHECK w_MULTI w_CREATE_SESSION w_CLOSE_SESSION w_AUTH X1 hx hZ hw hby hml hown e1 Z1 N1 hk V_b1 (F_code_w_CREATE_SESSION.keep K1 nin0) (E_w_CREATE_SESSION.keep K1) (own_sta_keep S_CREATE K1) n_w_CREATE_w_CREATE_SESSION (own_sta_keep S_DELETE K1) n_w_CREATE_SESSION_w_DELETE (own_sta_keep S_SET_DATA K1) n_w_CREATE_SESSION_w_SET_DATA (own_sta_keep S_CHECK K1) n_w_CHECK_w_CREATE_SESSION
    · exact pc0_k7 p1 b1 k1 w_CREATE w_DELETE w_SET_DATA w_SET_ACL w_CHECK w_MULTI w_CREATE_SESSION w_CLOSE_SESSION w_AUTH X1 hx hZ hw hby hml hown e1 Z1 N1 hk V_b1 (F_code_w_CLOSE_SESSION.keep K1 nin0) (E_w_CLOSE_SESSION.keep K1) (own_sta_keep S_CREATE K1) n_w_CLOSE_SESSION_w_CREATE (own_sta_keep S_DELETE K1) n_w_CLOSE_SESSION_w_DELETE (own_sta_keep S_SET_DATA K1) n_w_CLOSE_SESSION_w_SET_DATA (own_sta_keep S_CHECK K1) n_w_CHECK_w_CLOSE_SESSION
    · exact pc0_k8 p1 b1 k1 w_CREATE w_DELETE w_SET_DATA w_SET_ACL w_CHECK w_MULTI w_CREATE_SESSION w_CLOSE_SESSION w_AUTH X1 hx hZ hw hby hml hown e1 Z1 N1 hk V_b1 (F_code_w_AUTH.keep K1 nin0) (E_w_AUTH.keep K1) (own_sta_keep S_CREATE K1) n_w_AUTH_w_CREATE (own_sta_keep S_DELETE K1) n_w_AUTH_w_DELETE (own_sta_keep S_SET_DATA K1) n_w_AUTH_w_SET_DATA (own_sta_keep S_CHECK K1) n_w_AUTH_w_CHECK
  obtain ⟨T2, L2, Ls, X2, N2, st2⟩ := tail
  obtain ⟨fs, hr, hrun, hended, hW, hsame⟩ := X2.leave (v := some (.int (1 : Int32))) (fun h => by rw [Bd.returns] at h; cases h)
  refine ⟨_, _, pre0 _ ?_, hrun, hended, _, _, rfl, ?_, ⟨_, rfl⟩, hW, hsame.mono (by decide) (by decide)⟩
  · refine st1 _ ?_
    refine st2 _ ?_
    exact retN X2 hx (t := .boolean) Bd.returns (by simp) (hb hby at_143) hr
  · show Q0_all Z p1 w_CREATE w_DELETE w_SET_DATA w_SET_ACL w_CHECK w_MULTI w_CREATE_SESSION w_CLOSE_SESSION w_AUTH h0 n0 _ T2.heap _
    exact ⟨rfl, N2, trivial⟩
set_option maxRecDepth 65536 in
set_option maxHeartbeats 40000000 in
theorem comes_1 {Post : Tables → Env → Array Value → State → Outcome → State → Prop} (hpost : ∀ tb e args s v u, (limb_1_1.after args s (.returned v) u = true ∧ limb_1_2.after args s (.returned v) u = true ∧ True) → FrameEnd s (.returned v) u (Jvm.fieldLocs frame_1_writes args s ++ Jvm.arrayLocs frame_1_arrays args s ++ Jvm.staticLocs frame_1_statics s) 16 128 → Post tb e args s (.returned v) u) :
    ArmFor flags0 classFile x code maxLocals ret World_1 tables_1 room_1 Calls_1 rest_1 Pre_1 Post := by
  intro l hfl _ _ p e ha hc hk s m args below hf hA hF happ hP
  obtain ⟨hcalls, hrest, hpre⟩ := hP
  obtain ⟨-, -, -, hnamed, -, -, -, hat⟩ := (Spec.applies_iff hf).mp happ
  obtain ⟨hg, hn⟩ := and_e (Cond.before_iff.mp (show (Jvm.Cond.and given_1 narrow_1).before args s = true from hpre))
  obtain ⟨g1a, g1b⟩ := and_e hg
  obtain ⟨w0, rfl⟩ : ∃ w0 : Value, args = #[w0] := by
    have hs : args.size = 1 := by simpa [Cond.value, given_1] using g1a
    obtain ⟨L⟩ := args
    match L, hs with
    | [w0], _ => exact ⟨w0, rfl⟩
  have hw := fun d (hd : d ∈ tables_1) => atoms_spec (ws := Jvm.Cond.code x code maxLocals ret :: tables_1) hat d (List.mem_cons_of_mem _ hd)
  have hfit : Fit s := fun {y c} hc i hi => by
    obtain ⟨ha, rfl⟩ := Array.getElem?_eq_some_iff.mp hc
    have q := List.all_eq_true.mp ((Array.all_eq_true_iff_forall_mem.mp hF) _ (Array.getElem_mem ha)) i (List.mem_range.mpr hi)
    simpa [Array.getElem?_eq_getElem hi] using q
  obtain ⟨i0, ei0⟩ := is_v g1b
  obtain rfl : w0 = (.int i0) := Option.some.inj ei0
  obtain ⟨g2a, g2b⟩ := and_e hn
  obtain ⟨g3a, g3b⟩ := and_e g2b
  obtain ⟨g4a, g4b⟩ := and_e g3b
  obtain ⟨g5a, g5b⟩ := and_e g4b
  obtain ⟨g6a, g6b⟩ := and_e g5b
  obtain ⟨g7a, g7b⟩ := and_e g6b
  obtain ⟨g8a, g8b⟩ := and_e g7b
  obtain ⟨g9a, g9b⟩ := and_e g8b
  obtain ⟨g10a, g10b⟩ := and_e g9b
  obtain ⟨g11a, g11b⟩ := and_e g10b
  obtain ⟨g12a, g12b⟩ := and_e g11b
  obtain ⟨g13a, g13b⟩ := and_e g12b
  obtain ⟨g14a, g14b⟩ := and_e g13b
  obtain ⟨g15a, g15b⟩ := and_e g14b
  obtain ⟨g16a, g16b⟩ := and_e g15b
  obtain ⟨g17a, g17b⟩ := and_e g16b
  obtain ⟨g18a, g18b⟩ := and_e g17b
  obtain ⟨g19a, g19b⟩ := and_e g18b
  obtain ⟨g20a, g20b⟩ := and_e g19b
  obtain ⟨g21a, g21b⟩ := and_e g20b
  obtain ⟨g22a, g22b⟩ := and_e g21b
  obtain ⟨g23a, g23b⟩ := and_e g22b
  obtain ⟨g24a, g24b⟩ := and_e g23b
  obtain ⟨g25a, g25b⟩ := and_e g24b
  obtain ⟨g26a, g26b⟩ := and_e g25b
  obtain ⟨g27a, g27b⟩ := and_e g26b
  obtain ⟨w_CREATE, ev_CREATE⟩ := exa_v g2a
  have E_w_CREATE : Exa s s.heap w_CREATE "com/example/epochcast/epochcast/server/Txn$Type" := Exa.start ev_CREATE g2a
  have S_CREATE : Sta s s.heap "com/example/epochcast/epochcast/server/Txn$Type" "CREATE" "Lcom/example/epochcast/epochcast/server/Txn$Type;" (.ref w_CREATE) := Sta.start ev_CREATE (Or.inr ⟨(hw _ (List.mem_of_getElem? (i := 3) rfl)), (hw _ (List.mem_of_getElem? (i := 4) rfl))⟩)
  obtain ⟨w_DELETE, ev_DELETE⟩ := exa_v g3a
  have E_w_DELETE : Exa s s.heap w_DELETE "com/example/epochcast/epochcast/server/Txn$Type" := Exa.start ev_DELETE g3a
  have S_DELETE : Sta s s.heap "com/example/epochcast/epochcast/server/Txn$Type" "DELETE" "Lcom/example/epochcast/epochcast/server/Txn$Type;" (.ref w_DELETE) := Sta.start ev_DELETE (Or.inr ⟨(hw _ (List.mem_of_getElem? (i := 3) rfl)), (hw _ (List.mem_of_getElem? (i := 7) rfl))⟩)
  obtain ⟨w_SET_DATA, ev_SET_DATA⟩ := exa_v g4a
  have E_w_SET_DATA : Exa s s.heap w_SET_DATA "com/example/epochcast/epochcast/server/Txn$Type" := Exa.start ev_SET_DATA g4a
  have S_SET_DATA : Sta s s.heap "com/example/epochcast/epochcast/server/Txn$Type" "SET_DATA" "Lcom/example/epochcast/epochcast/server/Txn$Type;" (.ref w_SET_DATA) := Sta.start ev_SET_DATA (Or.inr ⟨(hw _ (List.mem_of_getElem? (i := 3) rfl)), (hw _ (List.mem_of_getElem? (i := 9) rfl))⟩)
  obtain ⟨w_SET_ACL, ev_SET_ACL⟩ := exa_v g5a
  have E_w_SET_ACL : Exa s s.heap w_SET_ACL "com/example/epochcast/epochcast/server/Txn$Type" := Exa.start ev_SET_ACL g5a
  have S_SET_ACL : Sta s s.heap "com/example/epochcast/epochcast/server/Txn$Type" "SET_ACL" "Lcom/example/epochcast/epochcast/server/Txn$Type;" (.ref w_SET_ACL) := Sta.start ev_SET_ACL (Or.inr ⟨(hw _ (List.mem_of_getElem? (i := 3) rfl)), (hw _ (List.mem_of_getElem? (i := 11) rfl))⟩)
  obtain ⟨w_CHECK, ev_CHECK⟩ := exa_v g6a
  have E_w_CHECK : Exa s s.heap w_CHECK "com/example/epochcast/epochcast/server/Txn$Type" := Exa.start ev_CHECK g6a
  have S_CHECK : Sta s s.heap "com/example/epochcast/epochcast/server/Txn$Type" "CHECK" "Lcom/example/epochcast/epochcast/server/Txn$Type;" (.ref w_CHECK) := Sta.start ev_CHECK (Or.inr ⟨(hw _ (List.mem_of_getElem? (i := 3) rfl)), (hw _ (List.mem_of_getElem? (i := 13) rfl))⟩)
  obtain ⟨w_MULTI, ev_MULTI⟩ := exa_v g7a
  have E_w_MULTI : Exa s s.heap w_MULTI "com/example/epochcast/epochcast/server/Txn$Type" := Exa.start ev_MULTI g7a
  have S_MULTI : Sta s s.heap "com/example/epochcast/epochcast/server/Txn$Type" "MULTI" "Lcom/example/epochcast/epochcast/server/Txn$Type;" (.ref w_MULTI) := Sta.start ev_MULTI (Or.inr ⟨(hw _ (List.mem_of_getElem? (i := 3) rfl)), (hw _ (List.mem_of_getElem? (i := 15) rfl))⟩)
  obtain ⟨w_CREATE_SESSION, ev_CREATE_SESSION⟩ := exa_v g8a
  have E_w_CREATE_SESSION : Exa s s.heap w_CREATE_SESSION "com/example/epochcast/epochcast/server/Txn$Type" := Exa.start ev_CREATE_SESSION g8a
  have S_CREATE_SESSION : Sta s s.heap "com/example/epochcast/epochcast/server/Txn$Type" "CREATE_SESSION" "Lcom/example/epochcast/epochcast/server/Txn$Type;" (.ref w_CREATE_SESSION) := Sta.start ev_CREATE_SESSION (Or.inr ⟨(hw _ (List.mem_of_getElem? (i := 3) rfl)), (hw _ (List.mem_of_getElem? (i := 17) rfl))⟩)
  obtain ⟨w_CLOSE_SESSION, ev_CLOSE_SESSION⟩ := exa_v g9a
  have E_w_CLOSE_SESSION : Exa s s.heap w_CLOSE_SESSION "com/example/epochcast/epochcast/server/Txn$Type" := Exa.start ev_CLOSE_SESSION g9a
  have S_CLOSE_SESSION : Sta s s.heap "com/example/epochcast/epochcast/server/Txn$Type" "CLOSE_SESSION" "Lcom/example/epochcast/epochcast/server/Txn$Type;" (.ref w_CLOSE_SESSION) := Sta.start ev_CLOSE_SESSION (Or.inr ⟨(hw _ (List.mem_of_getElem? (i := 3) rfl)), (hw _ (List.mem_of_getElem? (i := 19) rfl))⟩)
  obtain ⟨w_AUTH, ev_AUTH⟩ := exa_v g10a
  have E_w_AUTH : Exa s s.heap w_AUTH "com/example/epochcast/epochcast/server/Txn$Type" := Exa.start ev_AUTH g10a
  have S_AUTH : Sta s s.heap "com/example/epochcast/epochcast/server/Txn$Type" "AUTH" "Lcom/example/epochcast/epochcast/server/Txn$Type;" (.ref w_AUTH) := Sta.start ev_AUTH (Or.inr ⟨(hw _ (List.mem_of_getElem? (i := 3) rfl)), (hw _ (List.mem_of_getElem? (i := 21) rfl))⟩)
  have F_code_w_CREATE : Fld s s.heap w_CREATE "com/example/epochcast/epochcast/server/Txn$Type" "code" "I" (.int (1 : Int32)) := own_fld ev_CREATE g11a
  have F_ordinal_w_CREATE : Fld s s.heap w_CREATE "java/lang/Enum" "ordinal" "I" (.int (0 : Int32)) := own_fld ev_CREATE g12a
  have F_ordinal_w_CREATE_SESSION : Fld s s.heap w_CREATE_SESSION "java/lang/Enum" "ordinal" "I" (.int (6 : Int32)) := own_fld ev_CREATE_SESSION g13a
  have F_ordinal_w_CLOSE_SESSION : Fld s s.heap w_CLOSE_SESSION "java/lang/Enum" "ordinal" "I" (.int (7 : Int32)) := own_fld ev_CLOSE_SESSION g14a
  have F_ordinal_w_AUTH : Fld s s.heap w_AUTH "java/lang/Enum" "ordinal" "I" (.int (8 : Int32)) := own_fld ev_AUTH g15a
  have F_code_w_SET_ACL : Fld s s.heap w_SET_ACL "com/example/epochcast/epochcast/server/Txn$Type" "code" "I" (.int (7 : Int32)) := own_fld ev_SET_ACL g16a
  have F_ordinal_w_SET_ACL : Fld s s.heap w_SET_ACL "java/lang/Enum" "ordinal" "I" (.int (3 : Int32)) := own_fld ev_SET_ACL g17a
  have F_ordinal_w_DELETE : Fld s s.heap w_DELETE "java/lang/Enum" "ordinal" "I" (.int (1 : Int32)) := own_fld ev_DELETE g18a
  have F_ordinal_w_SET_DATA : Fld s s.heap w_SET_DATA "java/lang/Enum" "ordinal" "I" (.int (2 : Int32)) := own_fld ev_SET_DATA g19a
  have F_ordinal_w_CHECK : Fld s s.heap w_CHECK "java/lang/Enum" "ordinal" "I" (.int (4 : Int32)) := own_fld ev_CHECK g20a
  have F_code_w_SET_DATA : Fld s s.heap w_SET_DATA "com/example/epochcast/epochcast/server/Txn$Type" "code" "I" (.int (5 : Int32)) := own_fld ev_SET_DATA g21a
  have F_code_w_DELETE : Fld s s.heap w_DELETE "com/example/epochcast/epochcast/server/Txn$Type" "code" "I" (.int (2 : Int32)) := own_fld ev_DELETE g22a
  have F_code_w_CLOSE_SESSION : Fld s s.heap w_CLOSE_SESSION "com/example/epochcast/epochcast/server/Txn$Type" "code" "I" (.int (-11 : Int32)) := own_fld ev_CLOSE_SESSION g23a
  have F_code_w_CHECK : Fld s s.heap w_CHECK "com/example/epochcast/epochcast/server/Txn$Type" "code" "I" (.int (13 : Int32)) := own_fld ev_CHECK g24a
  have F_code_w_AUTH : Fld s s.heap w_AUTH "com/example/epochcast/epochcast/server/Txn$Type" "code" "I" (.int (100 : Int32)) := own_fld ev_AUTH g25a
  have F_code_w_CREATE_SESSION : Fld s s.heap w_CREATE_SESSION "com/example/epochcast/epochcast/server/Txn$Type" "code" "I" (.int (-10 : Int32)) := own_fld ev_CREATE_SESSION g26a
  have F_code_w_MULTI : Fld s s.heap w_MULTI "com/example/epochcast/epochcast/server/Txn$Type" "code" "I" (.int (14 : Int32)) := own_fld ev_MULTI g27a
  have F_ordinal_w_MULTI : Fld s s.heap w_MULTI "java/lang/Enum" "ordinal" "I" (.int (5 : Int32)) := own_fld ev_MULTI g27b
  have n_w_AUTH_w_CHECK : ¬ (w_AUTH = w_CHECK) := own_ne F_ordinal_w_AUTH F_ordinal_w_CHECK (by decide)
  have n_w_AUTH_w_CREATE : ¬ (w_AUTH = w_CREATE) := own_ne F_ordinal_w_AUTH F_ordinal_w_CREATE (by decide)
  have n_w_AUTH_w_DELETE : ¬ (w_AUTH = w_DELETE) := own_ne F_ordinal_w_AUTH F_ordinal_w_DELETE (by decide)
  have n_w_AUTH_w_SET_DATA : ¬ (w_AUTH = w_SET_DATA) := own_ne F_ordinal_w_AUTH F_ordinal_w_SET_DATA (by decide)
  have n_w_CHECK_w_CLOSE_SESSION : ¬ (w_CHECK = w_CLOSE_SESSION) := own_ne F_ordinal_w_CHECK F_ordinal_w_CLOSE_SESSION (by decide)
  have n_w_CHECK_w_CREATE : ¬ (w_CHECK = w_CREATE) := own_ne F_ordinal_w_CHECK F_ordinal_w_CREATE (by decide)
  have n_w_CHECK_w_CREATE_SESSION : ¬ (w_CHECK = w_CREATE_SESSION) := own_ne F_ordinal_w_CHECK F_ordinal_w_CREATE_SESSION (by decide)
  have n_w_CHECK_w_DELETE : ¬ (w_CHECK = w_DELETE) := own_ne F_ordinal_w_CHECK F_ordinal_w_DELETE (by decide)
  have n_w_CHECK_w_MULTI : ¬ (w_CHECK = w_MULTI) := own_ne F_ordinal_w_CHECK F_ordinal_w_MULTI (by decide)
  have n_w_CHECK_w_SET_ACL : ¬ (w_CHECK = w_SET_ACL) := own_ne F_ordinal_w_CHECK F_ordinal_w_SET_ACL (by decide)
  have n_w_CHECK_w_SET_DATA : ¬ (w_CHECK = w_SET_DATA) := own_ne F_ordinal_w_CHECK F_ordinal_w_SET_DATA (by decide)
  have n_w_CLOSE_SESSION_w_CREATE : ¬ (w_CLOSE_SESSION = w_CREATE) := own_ne F_ordinal_w_CLOSE_SESSION F_ordinal_w_CREATE (by decide)
  have n_w_CLOSE_SESSION_w_DELETE : ¬ (w_CLOSE_SESSION = w_DELETE) := own_ne F_ordinal_w_CLOSE_SESSION F_ordinal_w_DELETE (by decide)
  have n_w_CLOSE_SESSION_w_SET_DATA : ¬ (w_CLOSE_SESSION = w_SET_DATA) := own_ne F_ordinal_w_CLOSE_SESSION F_ordinal_w_SET_DATA (by decide)
  have n_w_CREATE_w_CREATE_SESSION : ¬ (w_CREATE = w_CREATE_SESSION) := own_ne F_ordinal_w_CREATE F_ordinal_w_CREATE_SESSION (by decide)
  have n_w_CREATE_w_DELETE : ¬ (w_CREATE = w_DELETE) := own_ne F_ordinal_w_CREATE F_ordinal_w_DELETE (by decide)
  have n_w_CREATE_w_MULTI : ¬ (w_CREATE = w_MULTI) := own_ne F_ordinal_w_CREATE F_ordinal_w_MULTI (by decide)
  have n_w_CREATE_w_SET_ACL : ¬ (w_CREATE = w_SET_ACL) := own_ne F_ordinal_w_CREATE F_ordinal_w_SET_ACL (by decide)
  have n_w_CREATE_w_SET_DATA : ¬ (w_CREATE = w_SET_DATA) := own_ne F_ordinal_w_CREATE F_ordinal_w_SET_DATA (by decide)
  have n_w_CREATE_SESSION_w_DELETE : ¬ (w_CREATE_SESSION = w_DELETE) := own_ne F_ordinal_w_CREATE_SESSION F_ordinal_w_DELETE (by decide)
  have n_w_CREATE_SESSION_w_SET_DATA : ¬ (w_CREATE_SESSION = w_SET_DATA) := own_ne F_ordinal_w_CREATE_SESSION F_ordinal_w_SET_DATA (by decide)
  have n_w_DELETE_w_MULTI : ¬ (w_DELETE = w_MULTI) := own_ne F_ordinal_w_DELETE F_ordinal_w_MULTI (by decide)
  have n_w_DELETE_w_SET_ACL : ¬ (w_DELETE = w_SET_ACL) := own_ne F_ordinal_w_DELETE F_ordinal_w_SET_ACL (by decide)
  have n_w_DELETE_w_SET_DATA : ¬ (w_DELETE = w_SET_DATA) := own_ne F_ordinal_w_DELETE F_ordinal_w_SET_DATA (by decide)
  have n_w_MULTI_w_SET_DATA : ¬ (w_MULTI = w_SET_DATA) := own_ne F_ordinal_w_MULTI F_ordinal_w_SET_DATA (by decide)
  have n_w_SET_ACL_w_SET_DATA : ¬ (w_SET_ACL = w_SET_DATA) := own_ne F_ordinal_w_SET_ACL F_ordinal_w_SET_DATA (by decide)
  obtain ⟨n, o, h1, h2, h3, _, L, rfl, ⟨rfl, N, -⟩, hq⟩ := rm0_all l s _ hw tables_1 i0 w_CREATE w_DELETE w_SET_DATA w_SET_ACL w_CHECK w_MULTI w_CREATE_SESSION w_CLOSE_SESSION w_AUTH s.heap s.heap.size (Nat.le_refl _) S_CREATE E_w_CREATE S_DELETE E_w_DELETE S_SET_DATA E_w_SET_DATA S_SET_ACL E_w_SET_ACL S_CHECK E_w_CHECK S_MULTI E_w_MULTI S_CREATE_SESSION E_w_CREATE_SESSION S_CLOSE_SESSION E_w_CLOSE_SESSION S_AUTH E_w_AUTH F_code_w_CREATE n_w_CREATE_w_CREATE_SESSION n_w_CLOSE_SESSION_w_CREATE n_w_AUTH_w_CREATE F_code_w_DELETE n_w_CREATE_w_DELETE n_w_CREATE_SESSION_w_DELETE n_w_CLOSE_SESSION_w_DELETE n_w_AUTH_w_DELETE F_code_w_SET_DATA n_w_CREATE_w_SET_DATA n_w_DELETE_w_SET_DATA n_w_CREATE_SESSION_w_SET_DATA n_w_CLOSE_SESSION_w_SET_DATA n_w_AUTH_w_SET_DATA F_code_w_SET_ACL n_w_CREATE_w_SET_ACL n_w_DELETE_w_SET_ACL n_w_SET_ACL_w_SET_DATA n_w_CHECK_w_SET_ACL F_code_w_CHECK n_w_CHECK_w_CREATE n_w_CHECK_w_DELETE n_w_CHECK_w_SET_DATA n_w_CHECK_w_CREATE_SESSION n_w_CHECK_w_CLOSE_SESSION n_w_AUTH_w_CHECK F_code_w_MULTI n_w_CREATE_w_MULTI n_w_DELETE_w_MULTI n_w_MULTI_w_SET_DATA n_w_CHECK_w_MULTI F_code_w_CREATE_SESSION F_code_w_CLOSE_SESSION F_code_w_AUTH p e ha hc hk s m _ below hf ((Spec.applies_iff_loose hf).mp happ).1 ⟨rfl, State.Warmed39.refl s, rfl⟩ trivial
  exact ⟨n, _, h1, h2, h3, hpost _ _ _ _ _ _ ⟨Cond.after_iff.mpr rfl, Cond.after_iff.mpr (eq_i res_at (Term.int_eval (1)) rfl), trivial⟩ ⟨hq.1, hq.2.1, (hq.2.2.sift fun y hy => Or.inr (N y hy)).mono (by decide) (by decide)⟩⟩
theorem main_1_1 : Claimed_1_1 := comes_1 fun _ _ _ _ _ _ h hF => ⟨h.1, hF⟩
theorem main_1_2 : Claimed_1_2 := comes_1 fun _ _ _ _ _ _ h hF => ⟨h.2.1, hF⟩
end Jvm.Pilot.@@N@@
namespace Jvm.Pilot.@@N@@
open Jvm Jvm.ClassFile Sem Op Lib Jvm.Free Jvm.Stand Jvm.Pilot.@@N@@.Jvm.D
/-! MADE BY PROGRAM (witnessworld.py) out of the Statement's table words and the real class files: 13 classes; the members and pool entries that the words name. The judged class is class 1, her method 1. -/
namespace start1
open Jvm.ClassFile
def u (s : String) : CpInfo := .utf8 (stringToUtf16 s)
/-- a pool by its gaps: so many unusable entries, then the entry; so many at the end -/
def gap : Nat → List CpInfo → List CpInfo
  | 0, r => r
  | n + 1, r => .unusable :: gap n r
def poolList (es : List (Nat × CpInfo)) (last : Nat) : List CpInfo := es.foldr (fun e r => gap e.1 (e.2 :: r)) (gap last [])
def pool (es : List (Nat × CpInfo)) (last : Nat) : Array CpInfo := ⟨poolList es last⟩
def fileOf (pool : Array CpInfo) (this : Nat) (attrs : Array Attribute := #[]) (ms : Array MethodInfo := #[]) (fl : Nat := 33) (sup : Nat := 0) (ifs : Array Nat := #[]) (fds : Array FieldInfo := #[]) : ClassFile where
  minorVersion := 0
  majorVersion := 65
  constantPool := pool
  accessFlags := fl
  thisClass := this
  superClass := sup
  interfaces := ifs
  fields := fds
  methods := ms
  attributes := attrs
def plain (name : String) (sup : Option ClassId) : Class where
  name := name
  kind := .ordinary
  loader := none
  accessFlags := 33
  super := sup
  interfaces := #[]
  cf := none
  fields := #[]
  methods := #[]
  instanceTypes := #[]
  staticTypes := #[]
  resolved := #[]
  callSites := []
  init := .initialized
  statics := none
  mirror := none

def pool0 : Array CpInfo := pool [(5, u "<init>"), (0, u "()V"), (1, .class_ 10), (1, u "java/lang/Object")] 113

def k0m0 : Method := { name := "<init>", desc := "()V", sig := { parameters := [], returnType := none }, accessFlags := 1, code := none }
/-- java/lang/Object -/
def k0 : Class := { plain "java/lang/Object" none with
  accessFlags := 33
  interfaces := #[]
  cf := some (fileOf pool0 8 #[] #[{ accessFlags := 1, nameIndex := 5, descriptorIndex := 6, attributes := #[] }] 33 0 #[] #[])
  fields := #[]
  methods := #[k0m0]
  instanceTypes := #[]
  staticTypes := #[]
  resolved := Array.replicate 124 none
  statics := none }

def pool1 : Array CpInfo := pool [(2, .class_ 4), (1, u "java/lang/Object"), (0, u "<init>"), (0, u "()V"), (0, .class_ 8), (0, u "com/example/epochcast/epochcast/server/Txn$Type"), (0, .fieldref 7 10), (0, .nameAndType 11 12), (0, u "CREATE"), (0, u "Lcom/example/epochcast/epochcast/server/Txn$Type;"), (0, .fieldref 7 14), (0, .nameAndType 15 12), (0, u "DELETE"), (0, .fieldref 7 17), (0, .nameAndType 18 12), (0, u "SET_DATA"), (0, .fieldref 7 20), (0, .nameAndType 21 12), (0, u "SET_ACL"), (0, .fieldref 7 23), (0, .nameAndType 24 12), (0, u "CHECK"), (0, .fieldref 7 26), (0, .nameAndType 27 12), (0, u "MULTI"), (0, .fieldref 7 29), (0, .nameAndType 30 12), (0, u "CREATE_SESSION"), (0, .fieldref 7 32), (0, .nameAndType 33 12), (0, u "CLOSE_SESSION"), (0, .fieldref 7 35), (0, .nameAndType 36 12), (0, u "AUTH"), (0, .integer 2147483647), (0, .methodref 7 39), (0, .nameAndType 40 41), (0, u "code"), (0, u "()I"), (0, .methodref 7 43), (0, .nameAndType 44 45), (0, u "isOperation"), (0, u "()Z"), (0, .methodref 7 47), (0, .nameAndType 48 45), (0, u "isSession"), (0, .class_ 50), (0, u "com/example/epochcast/epochcast/server/TypeIsOperationPinLaw"), (2, u "law"), (0, u "(I)Z")] 9

def k1m0 : Method := { name := "<init>", desc := "()V", sig := { parameters := [], returnType := none }, accessFlags := 1, code := none }
def k1c1 : Code := { maxStack := 4, maxLocals := 7, code := code, exceptionTable := #[], attributes := #[] }
def k1m1 : Method := { name := "law", desc := "(I)Z", sig := { parameters := [.int], returnType := some .boolean }, accessFlags := 9, code := some k1c1 }
/-- com/example/epochcast/epochcast/server/TypeIsOperationPinLaw -/
def k1 : Class := { plain "com/example/epochcast/epochcast/server/TypeIsOperationPinLaw" (some 0) with
  accessFlags := 49
  interfaces := #[]
  cf := some (fileOf pool1 49 #[] #[{ accessFlags := 1, nameIndex := 5, descriptorIndex := 6, attributes := #[] }, { accessFlags := 9, nameIndex := 53, descriptorIndex := 54, attributes := #[] }] 49 2 #[] #[])
  fields := #[]
  methods := #[k1m0, k1m1]
  instanceTypes := #[]
  staticTypes := #[]
  resolved := Array.replicate 64 none
  statics := none }

def pool2 : Array CpInfo := pool [(1, .class_ 2), (0, u "java/lang/constant/Constable"), (0, .class_ 4), (0, u "java/lang/Object")] 6

/-- java/lang/constant/Constable -/
def k2 : Class := { plain "java/lang/constant/Constable" (some 0) with
  accessFlags := 1537
  interfaces := #[]
  cf := some (fileOf pool2 1 #[] #[] 1537 3 #[] #[])
  fields := #[]
  methods := #[]
  instanceTypes := #[]
  staticTypes := #[]
  resolved := Array.replicate 11 none
  statics := none }

def pool3 : Array CpInfo := pool [(1, .class_ 2), (0, u "java/lang/Comparable"), (0, .class_ 4), (0, u "java/lang/Object")] 7

/-- java/lang/Comparable -/
def k3 : Class := { plain "java/lang/Comparable" (some 0) with
  accessFlags := 1537
  interfaces := #[]
  cf := some (fileOf pool3 1 #[] #[] 1537 3 #[] #[])
  fields := #[]
  methods := #[]
  instanceTypes := #[]
  staticTypes := #[]
  resolved := Array.replicate 12 none
  statics := none }

def pool4 : Array CpInfo := pool [(1, .class_ 2), (0, u "java/io/Serializable"), (0, .class_ 4), (0, u "java/lang/Object")] 2

/-- java/io/Serializable -/
def k4 : Class := { plain "java/io/Serializable" (some 0) with
  accessFlags := 1537
  interfaces := #[]
  cf := some (fileOf pool4 1 #[] #[] 1537 3 #[] #[])
  fields := #[]
  methods := #[]
  instanceTypes := #[]
  staticTypes := #[]
  resolved := Array.replicate 7 none
  statics := none }

def pool5 : Array CpInfo := pool [(2, .class_ 4), (1, u "java/lang/Enum"), (0, u "name"), (0, u "Ljava/lang/String;"), (2, u "ordinal"), (0, u "I"), (1, .class_ 14), (1, u "java/lang/Object"), (4, u "hash"), (86, .class_ 108), (1, u "java/lang/Enum$EnumDesc"), (2, .class_ 112), (0, u "java/lang/constant/Constable"), (0, .class_ 114), (0, u "java/lang/Comparable"), (0, .class_ 116), (0, u "java/io/Serializable")] 87

/-- java/lang/Enum -/
def k5 : Class := { plain "java/lang/Enum" (some 0) with
  accessFlags := 1057
  interfaces := #[2, 3, 4]
  cf := some (fileOf pool5 2 #[.nestMembers #[106]] #[] 1057 12 #[111, 113, 115] #[{ accessFlags := 18, nameIndex := 5, descriptorIndex := 6, attributes := #[] }, { accessFlags := 18, nameIndex := 9, descriptorIndex := 10, attributes := #[] }, { accessFlags := 2, nameIndex := 19, descriptorIndex := 10, attributes := #[] }])
  fields := #[{ name := "name", type := (.object "java/lang/String"), accessFlags := 18, slot := 0, constantValue := 0 }, { name := "ordinal", type := .int, accessFlags := 18, slot := 1, constantValue := 0 }, { name := "hash", type := .int, accessFlags := 2, slot := 2, constantValue := 0 }]
  methods := #[]
  instanceTypes := #[(.object "java/lang/String"), .int, .int]
  staticTypes := #[]
  resolved := Array.replicate 204 none
  statics := none }

def pool6 : Array CpInfo := pool [(1, .class_ 2), (0, u "com/example/epochcast/epochcast/server/Txn$Type"), (0, .fieldref 1 4), (0, .nameAndType 5 6), (0, u "CREATE"), (0, u "Lcom/example/epochcast/epochcast/server/Txn$Type;"), (0, .fieldref 1 8), (0, .nameAndType 9 6), (0, u "DELETE"), (0, .fieldref 1 11), (0, .nameAndType 12 6), (0, u "SET_DATA"), (2, u "SET_ACL"), (0, .fieldref 1 17), (0, .nameAndType 18 6), (0, u "CHECK"), (2, u "MULTI"), (0, .fieldref 1 23), (0, .nameAndType 24 6), (0, u "CREATE_SESSION"), (0, .fieldref 1 26), (0, .nameAndType 27 6), (0, u "CLOSE_SESSION"), (0, .fieldref 1 29), (0, .nameAndType 30 6), (0, u "AUTH"), (2, u "$VALUES"), (0, u "[Lcom/example/epochcast/epochcast/server/Txn$Type;"), (6, .class_ 43), (1, u "java/lang/Enum"), (6, .fieldref 1 51), (0, .nameAndType 52 53), (0, u "code"), (0, u "I"), (2, u "operation"), (0, u "Ljava/lang/String;"), (52, u "()I"), (0, u "isSession"), (0, u "()Z"), (1, u "isOperation"), (9, .class_ 125), (0, u "com/example/epochcast/epochcast/server/Txn")] 16

def k6c0 : Code := { maxStack := 1, maxLocals := 1, code := prog_202_method_4_code, exceptionTable := #[], attributes := #[] }
def k6m0 : Method := { name := "code", desc := "()I", sig := { parameters := [], returnType := some .int }, accessFlags := 0, code := some k6c0 }
def k6c1 : Code := { maxStack := 2, maxLocals := 1, code := prog_202_method_5_code, exceptionTable := #[], attributes := #[] }
def k6m1 : Method := { name := "isSession", desc := "()Z", sig := { parameters := [], returnType := some .boolean }, accessFlags := 0, code := some k6c1 }
def k6c2 : Code := { maxStack := 2, maxLocals := 1, code := prog_202_method_6_code, exceptionTable := #[], attributes := #[] }
def k6m2 : Method := { name := "isOperation", desc := "()Z", sig := { parameters := [], returnType := some .boolean }, accessFlags := 0, code := some k6c2 }
/-- com/example/epochcast/epochcast/server/Txn$Type -/
def k6 : Class := { plain "com/example/epochcast/epochcast/server/Txn$Type" (some 5) with
  accessFlags := 16433
  interfaces := #[]
  cf := some (fileOf pool6 1 #[.nestHost 124] #[{ accessFlags := 0, nameIndex := 52, descriptorIndex := 110, attributes := #[] }, { accessFlags := 0, nameIndex := 111, descriptorIndex := 112, attributes := #[] }, { accessFlags := 0, nameIndex := 114, descriptorIndex := 112, attributes := #[] }] 16433 41 #[] #[{ accessFlags := 16409, nameIndex := 5, descriptorIndex := 6, attributes := #[] }, { accessFlags := 16409, nameIndex := 9, descriptorIndex := 6, attributes := #[] }, { accessFlags := 16409, nameIndex := 12, descriptorIndex := 6, attributes := #[] }, { accessFlags := 16409, nameIndex := 15, descriptorIndex := 6, attributes := #[] }, { accessFlags := 16409, nameIndex := 18, descriptorIndex := 6, attributes := #[] }, { accessFlags := 16409, nameIndex := 21, descriptorIndex := 6, attributes := #[] }, { accessFlags := 16409, nameIndex := 24, descriptorIndex := 6, attributes := #[] }, { accessFlags := 16409, nameIndex := 27, descriptorIndex := 6, attributes := #[] }, { accessFlags := 16409, nameIndex := 30, descriptorIndex := 6, attributes := #[] }, { accessFlags := 18, nameIndex := 52, descriptorIndex := 53, attributes := #[] }, { accessFlags := 18, nameIndex := 56, descriptorIndex := 57, attributes := #[] }, { accessFlags := 4122, nameIndex := 33, descriptorIndex := 34, attributes := #[] }])
  fields := #[{ name := "CREATE", type := (.object "com/example/epochcast/epochcast/server/Txn$Type"), accessFlags := 16409, slot := 0, constantValue := 0 }, { name := "DELETE", type := (.object "com/example/epochcast/epochcast/server/Txn$Type"), accessFlags := 16409, slot := 1, constantValue := 0 }, { name := "SET_DATA", type := (.object "com/example/epochcast/epochcast/server/Txn$Type"), accessFlags := 16409, slot := 2, constantValue := 0 }, { name := "SET_ACL", type := (.object "com/example/epochcast/epochcast/server/Txn$Type"), accessFlags := 16409, slot := 3, constantValue := 0 }, { name := "CHECK", type := (.object "com/example/epochcast/epochcast/server/Txn$Type"), accessFlags := 16409, slot := 4, constantValue := 0 }, { name := "MULTI", type := (.object "com/example/epochcast/epochcast/server/Txn$Type"), accessFlags := 16409, slot := 5, constantValue := 0 }, { name := "CREATE_SESSION", type := (.object "com/example/epochcast/epochcast/server/Txn$Type"), accessFlags := 16409, slot := 6, constantValue := 0 }, { name := "CLOSE_SESSION", type := (.object "com/example/epochcast/epochcast/server/Txn$Type"), accessFlags := 16409, slot := 7, constantValue := 0 }, { name := "AUTH", type := (.object "com/example/epochcast/epochcast/server/Txn$Type"), accessFlags := 16409, slot := 8, constantValue := 0 }, { name := "code", type := .int, accessFlags := 18, slot := 3, constantValue := 0 }, { name := "operation", type := (.object "java/lang/String"), accessFlags := 18, slot := 4, constantValue := 0 }, { name := "$VALUES", type := (.array (.object "com/example/epochcast/epochcast/server/Txn$Type")), accessFlags := 4122, slot := 9, constantValue := 0 }]
  methods := #[k6m0, k6m1, k6m2]
  instanceTypes := #[(.object "java/lang/String"), .int, .int, .int, (.object "java/lang/String")]
  staticTypes := #[(.object "com/example/epochcast/epochcast/server/Txn$Type"), (.object "com/example/epochcast/epochcast/server/Txn$Type"), (.object "com/example/epochcast/epochcast/server/Txn$Type"), (.object "com/example/epochcast/epochcast/server/Txn$Type"), (.object "com/example/epochcast/epochcast/server/Txn$Type"), (.object "com/example/epochcast/epochcast/server/Txn$Type"), (.object "com/example/epochcast/epochcast/server/Txn$Type"), (.object "com/example/epochcast/epochcast/server/Txn$Type"), (.object "com/example/epochcast/epochcast/server/Txn$Type"), (.array (.object "com/example/epochcast/epochcast/server/Txn$Type"))]
  resolved := Array.replicate 142 none
  statics := some 0 }

def pool7 : Array CpInfo := pool [(1, u "java/lang/Cloneable"), (0, .class_ 1), (0, u "java/lang/Object"), (0, .class_ 3)] 3

/-- java/lang/Cloneable -/
def k7 : Class := { plain "java/lang/Cloneable" (some 0) with
  accessFlags := 1537
  interfaces := #[]
  cf := some (fileOf pool7 2 #[] #[] 1537 4 #[] #[])
  fields := #[]
  methods := #[]
  instanceTypes := #[]
  staticTypes := #[]
  resolved := Array.replicate 8 none
  statics := none }

/-- the primitive byte -/
def k8 : Class := { plain "byte" none with kind := .primitive 'B', accessFlags := 0x411 }
/-- [B -/
def k9 : Class := { plain "[B" (some 0) with kind := .array 8 .byte, interfaces := #[7, 4], accessFlags := 1041 }

/-- the primitive int -/
def k10 : Class := { plain "int" none with kind := .primitive 'I', accessFlags := 0x411 }
/-- [I -/
def k11 : Class := { plain "[I" (some 0) with kind := .array 10 .int, interfaces := #[7, 4], accessFlags := 1041 }

/-- [Lcom/example/epochcast/epochcast/server/Txn$Type; -/
def k12 : Class := { plain "[Lcom/example/epochcast/epochcast/server/Txn$Type;" (some 0) with kind := .array 6 (.object "com/example/epochcast/epochcast/server/Txn$Type"), interfaces := #[7, 4], accessFlags := 1041 }

def heap : Heap := #[{ cls := 6, slots := #[.ref 1, .ref 2, .ref 3, .ref 4, .ref 5, .ref 6, .ref 7, .ref 8, .ref 9, .null], vm := .statics 6 },
  { cls := 6, slots := #[.null, .int 0, .int 0, .int 1, .null], vm := .none },
  { cls := 6, slots := #[.null, .int 1, .int 0, .int 2, .null], vm := .none },
  { cls := 6, slots := #[.null, .int 2, .int 0, .int 5, .null], vm := .none },
  { cls := 6, slots := #[.null, .int 3, .int 0, .int 7, .null], vm := .none },
  { cls := 6, slots := #[.null, .int 4, .int 0, .int 13, .null], vm := .none },
  { cls := 6, slots := #[.null, .int 5, .int 0, .int 14, .null], vm := .none },
  { cls := 6, slots := #[.null, .int 6, .int 0, .int (-10), .null], vm := .none },
  { cls := 6, slots := #[.null, .int 7, .int 0, .int (-11), .null], vm := .none },
  { cls := 6, slots := #[.null, .int 8, .int 0, .int 100, .null], vm := .none }]
def classes : Array Class := #[k0, k1, k2, k3, k4, k5, k6, k7, k8, k9, k10, k11, k12]
def interned : List (Array UInt16 × Addr) := []
def slotsUsed : Nat := 55
def theMethod : MethodId := ⟨1, 1⟩
def args0 : Array Value := #[.int 5]
def aboutOver (below : List Frame) : State where
  vm := { classes := classes, interned := interned.toArray }
  heap := heap
  slotsUsed := slotsUsed
  threads := #[{ frames := .invoking theMethod args0 :: below }]
def below0 : List Frame := [.native { method := ⟨0, 0⟩, args := #[] }]
def about1 : State := aboutOver below0
def p0 : Program := .bare "" "" ""
def e0 : Env := launch0.env 0 0 0
theorem w_frames : about1.frames = Frame.invoking theMethod args0 :: below0 := rfl
set_option maxRecDepth 65536 in
theorem w_args : argsFit about1.vm theMethod args0 = true := by decide +kernel
set_option maxRecDepth 65536 in
theorem w_heap : heapFits about1 = true := by decide +kernel
set_option maxRecDepth 65536 in
theorem w_runnable : about1.curStatus? = some .runnable := by decide +kernel
set_option maxRecDepth 65536 in
theorem w_alone : about1.alone = true := by decide +kernel
set_option maxRecDepth 65536 in
theorem w_named : about1.methodNamed? x = some theMethod := by decide +kernel
set_option maxRecDepth 65536 in
theorem w_hears : about1.hears theMethod below0 = true := by decide +kernel
set_option maxRecDepth 65536 in
theorem w_ripe : about1.ripe theMethod args0 below0 = true := by decide +kernel
theorem w_running : about1.status = .running := rfl
set_option maxRecDepth 65536 in
theorem w_room : about1.hasRoom e0.platform room_1 = true :=
  launch0.hasRoom_least _ room_1 (by decide +kernel) (by decide +kernel) (by decide +kernel) (by decide +kernel) (by decide +kernel) (by decide +kernel)
theorem allAtoms_all (ts : List Jvm.Cond) (a : Array Jvm.Value) (st : Jvm.State) : (allAtoms ts).before a st = ts.all (fun c => c.before a st) := by
  induction ts with
  | nil => rfl
  | cons c t ih =>
    show (Jvm.Cond.and c (allAtoms t)).before a st = _
    rw [Jvm.Cond.before_and, ih, List.all_cons]
def words1 : List Jvm.Cond := Jvm.Cond.code x code maxLocals ret :: tables_1
/-- a 'code' word, met by the world's own term for the bytes: nothing is compared byte by byte -/
theorem code_word {y : MethodName} {bytes : ByteArray} {mx : Nat} {rt : Option FieldType} {a : Array Value} {s : State} {m : MethodId} {meth : Method} {c : Code} (h1 : s.methodNamed? y = some m) (h2 : s.vm.method? m = some meth) (h3 : meth.code = some c) (h4 : c.code = bytes)
    (h5 : (c.maxLocals == mx && c.exceptionTable.isEmpty && decide (c.maxStack ≤ mostOperands) && decide (meth.sig.returnType = rt) && !meth.locks && decide (parseMethodDescriptor y.desc = some meth.sig)) = true) : (Jvm.Cond.code y bytes mx rt).before a s = true := by
  simp only [Bool.and_eq_true, beq_iff_eq, Bool.not_eq_true', decide_eq_true_eq] at h5
  obtain ⟨⟨⟨⟨⟨g1, g2⟩, g3⟩, g4⟩, g5⟩, g6⟩ := h5
  simp [Cond.before, Cond.holds, Cond.value, h1, h2, h3, h4, g1, g2, g3, g4, g5, g6]
def isCode : Jvm.Cond → Bool
  | .code _ _ _ _ => true
  | _ => false
theorem all_split {L : List Jvm.Cond} {P : Jvm.Cond → Bool} (h1 : L.all (fun c => isCode c || P c) = true) (h2 : ∀ c ∈ L.filter isCode, P c = true) : L.all P = true := by
  refine List.all_eq_true.mpr fun c hc => ?_
  have h := List.all_eq_true.mp h1 c hc
  rcases Bool.eq_false_or_eq_true (isCode c) with hi | hi
  · exact h2 c (List.mem_filter.mpr ⟨hc, hi⟩)
  · simpa [hi] using h
set_option maxRecDepth 65536 in
theorem w_c0 : (Jvm.Cond.code x code maxLocals ret).before args0 about1 = true := code_word (m := ⟨1, 1⟩) (meth := k1m1) (c := k1c1) (by decide +kernel) rfl rfl rfl (by decide +kernel)
set_option maxRecDepth 65536 in
theorem w_c1 : (Jvm.Cond.code ({ cls := "com/example/epochcast/epochcast/server/Txn$Type", name := "code", desc := "()I" } : Jvm.MethodName) prog_202_method_4_code (1 : Nat) (Option.some Jvm.ClassFile.FieldType.int)).before args0 about1 = true := code_word (m := ⟨6, 0⟩) (meth := k6m0) (c := k6c0) (by decide +kernel) rfl rfl rfl (by decide +kernel)
set_option maxRecDepth 65536 in
theorem w_c2 : (Jvm.Cond.code ({ cls := "com/example/epochcast/epochcast/server/Txn$Type", name := "isOperation", desc := "()Z" } : Jvm.MethodName) prog_202_method_6_code (1 : Nat) (Option.some Jvm.ClassFile.FieldType.boolean)).before args0 about1 = true := code_word (m := ⟨6, 2⟩) (meth := k6m2) (c := k6c2) (by decide +kernel) rfl rfl rfl (by decide +kernel)
set_option maxRecDepth 65536 in
theorem w_c3 : (Jvm.Cond.code ({ cls := "com/example/epochcast/epochcast/server/Txn$Type", name := "isSession", desc := "()Z" } : Jvm.MethodName) prog_202_method_5_code (1 : Nat) (Option.some Jvm.ClassFile.FieldType.boolean)).before args0 about1 = true := code_word (m := ⟨6, 1⟩) (meth := k6m1) (c := k6c1) (by decide +kernel) rfl rfl rfl (by decide +kernel)
def codes1 : List Jvm.Cond := [Jvm.Cond.code x code maxLocals ret, Jvm.Cond.code ({ cls := "com/example/epochcast/epochcast/server/Txn$Type", name := "code", desc := "()I" } : Jvm.MethodName) prog_202_method_4_code (1 : Nat) (Option.some Jvm.ClassFile.FieldType.int), Jvm.Cond.code ({ cls := "com/example/epochcast/epochcast/server/Txn$Type", name := "isOperation", desc := "()Z" } : Jvm.MethodName) prog_202_method_6_code (1 : Nat) (Option.some Jvm.ClassFile.FieldType.boolean), Jvm.Cond.code ({ cls := "com/example/epochcast/epochcast/server/Txn$Type", name := "isSession", desc := "()Z" } : Jvm.MethodName) prog_202_method_5_code (1 : Nat) (Option.some Jvm.ClassFile.FieldType.boolean)]
set_option maxRecDepth 65536 in
theorem codes_eq : words1.filter isCode = codes1 := rfl
theorem w_codes : ∀ c ∈ words1.filter isCode, c.before args0 about1 = true := by
  rw [codes_eq]
  intro c hc
  simp only [codes1, List.mem_cons, List.not_mem_nil, or_false] at hc
  rcases hc with rfl | rfl | rfl | rfl
  · exact w_c0
  · exact w_c1
  · exact w_c2
  · exact w_c3
set_option maxRecDepth 65536 in
theorem w_t1 : (words1.take 24).all (fun c => isCode c || c.before args0 about1) = true := by decide +kernel
set_option maxRecDepth 65536 in
theorem w_t2 : (words1.drop 24).all (fun c => isCode c || c.before args0 about1) = true := by decide +kernel
theorem w_tables : (allAtoms (Jvm.Cond.code x code maxLocals ret :: tables_1)).before args0 about1 = true := by
  rw [allAtoms_all]
  show words1.all (fun c => c.before args0 about1) = true
  refine all_split ?_ w_codes
  rw [← List.take_append_drop 24 words1, List.all_append, w_t1, w_t2]
  rfl
set_option maxRecDepth 65536 in
theorem w_case : (Jvm.Cond.and given_1 narrow_1).before args0 about1 = true := by decide +kernel
theorem w_applies : (headSpec (Jvm.Cond.code x code maxLocals ret :: tables_1) room_1).applies x e0.platform about1 = true :=
  (Spec.applies_iff w_frames).mpr ⟨w_running, w_runnable, w_alone, w_named, w_hears, w_ripe, w_room, w_tables⟩
theorem atStart : AtStart classFile x code maxLocals ret World_1 tables_1 room_1 Calls_1 rest_1 Pre_1 launch0 p0 e0 about1 theMethod args0 below0 :=
  ⟨lists_1, trivial, launch0.admits_env _ _ _, launch0.least_env, fairChoices_fair.cas, fairChoices_fair.clock, w_frames, w_args, w_heap, w_applies, trivial, trivial, w_case⟩
end start1
theorem witness_1 : WitnessClaimed_1 := ⟨start1.p0, start1.e0, start1.about1, start1.theMethod, start1.args0, start1.below0, start1.atStart⟩
end Jvm.Pilot.@@N@@
