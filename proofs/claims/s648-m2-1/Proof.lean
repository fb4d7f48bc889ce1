import JvmDerived
import JvmDerived.Pilot.@@N@@Statement
import JvmDerived.Pilot.@@N@@Code
set_option linter.unusedVariables false
set_option linter.unusedSimpArgs false
namespace Jvm.RoadKit
open Sem ClassFile Op Lib Jvm.Stand Jvm.Free Jvm.LawKit
section New
variable {p : Program} {l : Launch} {e : Env} {R : Room} {s : State} {m : MethodId} {args : Array Value} {below : List Frame} {meth : Method} {c : Code} {T : State} {locs : List Loc} {cells slots : Nat}
theorem retI (X : Stand p l e R s m args below meth c T locs cells slots) (hx : p.tables.exec = Jvm.exec) {pc : Nat} {Ls : Array Slot} {z : Int32} {rest : List Value} (hret : meth.sig.returnType = some .int) (hd : decode c.code pc = .ok (.ireturn, 1)) {fs : List Frame}
    (hl : ∀ (f : JFrame) (acts : List Action), f.method = m → f.locked = none → f.entered = [] → (doReturn e (T.setTop f) acts (some (.int z))).1 = T.setFrames fs) : Steps p.tables e below (T.setTop (mkF m pc Ls (.int z :: rest))) (T.setFrames fs) := by
  have hm' : T.vm.method? m = some meth := X.method'
  have hn : narrow .int (.int z) = .int z := rfl
  show Steps p.tables e below (T.setTop { method := m, pc := pc, locals := Ls, stack := _ :: rest, locked := none }) _
  jvm_step X.here [X.here.top, hx, hd, hm', hret, hn]
  first | (intro acts; rw [hl _ acts rfl rfl rfl]) | rw [hl _ _ rfl rfl rfl]
  exact Steps.refl _
end New
end Jvm.RoadKit
namespace Jvm.Pilot.@@N@@
open Jvm Jvm.ClassFile Sem Op Lib Jvm.Free Jvm.Stand Jvm.LawKit Jvm.RoadKit Bundle Jvm.Pilot.@@N@@.Jvm.D
/-! small facts of my own -/
theorem own_fld {args : Array Value} {s : State} {t : Term} {a : Addr} {C n d : String} {k : Int32} (ev : t.eval args s none [] s = some (.ref a)) (h : (Jvm.Cond.eq (.field t C n d) (.int k)).value args s none s [] = some true) : Fld s s.heap a C n d (.int k) := by
  refine Fld.start ?_
  have h2 : (Term.field t C n d).eval args s none [] s = s.fieldOf? a C n d := by simp [Term.eval, ev]
  obtain ⟨x, y, e1, e2, k1, k2⟩ := cmp_v (Or.inl h)
  have e3 : y = .int k := (Option.some.inj e2).symm
  subst e3
  obtain ⟨z, rfl⟩ := k2
  have e4 : z = k := by simpa [Jvm.Cond.value, e1, e2] using h
  rw [← h2, e1, e4]
theorem own_leT {k : Nat} {T : State} {h : Heap} (e : T.heap = h) (hk : k ≤ h.size) : k ≤ T.heap.size := by rw [e]; exact hk
theorem own_lcmp0 {x : Int64} : lcmpW x x = 0 := (lw_eq x x).mpr rfl
theorem own_lt {x j k : Int32} (h : x < j) (q : ¬ k < j) : x < k := by rw [Int32.lt_iff_toInt_lt] at *; omega
theorem own_gt {x j k : Int32} (h : j < x) (q : ¬ j < k) : k < x := by rw [Int32.lt_iff_toInt_lt] at *; omega
theorem own_nlt {x j k : Int32} (h : j < x) (q : ¬ j.toInt + 1 < k.toInt) : ¬ x < k := by rw [Int32.lt_iff_toInt_lt] at *; omega
theorem own_ngt {x j k : Int32} (h : x < j) (q : ¬ k.toInt + 1 < j.toInt) : ¬ k < x := by rw [Int32.lt_iff_toInt_lt] at *; omega
theorem own_nelo {x j k : Int32} (h : j < x) (q : ¬ j < k) : ¬ x = k := fun e => by subst e; exact q h
theorem own_nehi {x j k : Int32} (h : x < j) (q : ¬ k < j) : ¬ x = k := fun e => by subst e; exact q h
theorem own_ilt {x k : Int32} {z : Int} (e : k.toInt = z) (h : x.toInt < z) : x < k := by rw [Int32.lt_iff_toInt_lt, e]; exact h
theorem own_igt {x k : Int32} {z : Int} (e : k.toInt = z) (h : z < x.toInt) : k < x := by rw [Int32.lt_iff_toInt_lt, e]; exact h
theorem own_ne {Z : State} {h : Heap} {a b : Addr} {C n d : String} {v w : Value} (F : Fld Z h a C n d v) (G : Fld Z h b C n d w) (hn : v ≠ w) : ¬ (a = b) := fun e => by
  subst e
  obtain ⟨c1, f1, k1, i1, g1, h1, h2, -, -, -, -, h7⟩ := F
  obtain ⟨c2, f2, k2, i2, g2, j1, j2, -, -, -, -, j7⟩ := G
  cases h1.symm.trans j1
  cases h2.symm.trans j2
  exact hn (Option.some.inj (h7.symm.trans j7))

theorem own_sta_keep {Z : State} {h h' : Heap} {C n d : String} {v : Value} (F : Sta Z h C n d v) (K : Keep h h' []) : Sta Z h' C n d v := by
  obtain ⟨cf, i, k, f, st, cell, h1, h2, h3, h4, h5, r⟩ := F
  exact ⟨cf, i, k, f, st, cell, h1, h2, h3, h4, K.2.1 _ _ h5 nin0, r⟩
theorem own_sta_keep1 {Z : State} {h h' : Heap} {C n d K' : String} {v : Value} {b : Addr} (F : Sta Z h C n d v) (K : Keep h h' [b]) (E : Exa Z h b K') : Sta Z h' C n d v := by
  obtain ⟨cf, i, k, f, st, cell, h1, h2, h3, h4, h5, h6, r⟩ := F
  obtain ⟨c2, k2, e1, -, -, e4, -⟩ := E
  refine ⟨cf, i, k, f, st, cell, h1, h2, h3, h4, K.2.1 _ _ h5 (ninS (fun q => ?_) nin0), h6, r⟩
  subst q
  cases h5.symm.trans e1
  rw [h6] at e4; cases e4
section OwnArr
variable {p : Program} {l : Launch} {e : Env} {R : Room} {s : State} {m : MethodId} {args : Array Value} {below : List Frame} {meth : Method} {c : Code} {T : State} {locs : List Loc} {cells slots : Nat} {Z : State} {h : Heap}
theorem own_stI (X : Stand p l e R s m args below meth c T locs cells slots) (hx : p.tables.exec = Jvm.exec) (hZ : Z.Warmed39 s.vm) (eT : T.heap = h) {a : Addr} {k : ClassId} {z j x : Int32} {vs : List Value} {d : Value} (V : Arv Z h a k .int z vs d) (i : Nat) (hj : j.toNatClampNeg = i) (hin : ¬ j < 0 ∧ j < z) (hi : i < vs.length) {g : JFrame} (hg : g.method = m) {rest : List Value} (hs : g.stack = .int x :: .int j :: .ref a :: rest) (hd : decode c.code g.pc = .ok (.iastore, 1)) :
    ∃ T' h', Stand p l e R s m args below meth c T' (locs ++ [⟨a, j.toNatClampNeg⟩]) cells slots ∧ T'.heap = h' ∧ Wr h h' a j.toNatClampNeg (.int x) ∧ Arv Z h' a k .int z (vs.set i (.int x)) d ∧ ∀ target, Steps p.tables e below (T'.setTop { g with pc := g.pc + 1, stack := rest }) target → Steps p.tables e below (T.setTop g) target := by
  obtain ⟨cl, A, q1, S, q3, H, G⟩ := V
  obtain ⟨T', h', X', e', W, st⟩ := stI X hx hZ eT A (j := j) (inb_of S hin) hg hs hd
  exact ⟨T', h', X', e', W, Arv.set A q1 S q3 H G rfl W i hj hi, st⟩
theorem own_stR (X : Stand p l e R s m args below meth c T locs cells slots) (hx : p.tables.exec = Jvm.exec) (hZ : Z.Warmed39 s.vm) (eT : T.heap = h) {a y : Addr} {k : ClassId} {z j : Int32} {vs : List Value} {d : Value} {C : String} (V : Arv Z h a k (.object C) z vs d) (O : Ovr Z k C) (I : Ins Z h y C true) (i : Nat) (hj : j.toNatClampNeg = i) (hin : ¬ j < 0 ∧ j < z) (hi : i < vs.length) {g : JFrame} (hg : g.method = m) {rest : List Value} (hs : g.stack = .ref y :: .int j :: .ref a :: rest) (hd : decode c.code g.pc = .ok (.aastore, 1)) :
    ∃ T' h', Stand p l e R s m args below meth c T' (locs ++ [⟨a, j.toNatClampNeg⟩]) cells slots ∧ T'.heap = h' ∧ Wr h h' a j.toNatClampNeg (.ref y) ∧ Arv Z h' a k (.object C) z (vs.set i (.ref y)) d ∧ ∀ target, Steps p.tables e below (T'.setTop { g with pc := g.pc + 1, stack := rest }) target → Steps p.tables e below (T.setTop g) target := by
  obtain ⟨cl, A, q1, S, q3, H, G⟩ := V
  obtain ⟨T', h', X', e', W, st⟩ := stR X hx hZ eT A (j := j) (inb_of S hin) rfl (Sto.ofV A q1 O I) hg hs hd
  exact ⟨T', h', X', e', W, Arv.set A q1 S q3 H G rfl W i hj hi, st⟩
theorem own_ldI (X : Stand p l e R s m args below meth c T locs cells slots) (hx : p.tables.exec = Jvm.exec) (hZ : Z.Warmed39 s.vm) (eT : T.heap = h) {a : Addr} {k : ClassId} {z j : Int32} {vs : List Value} {d v : Value} (V : Arv Z h a k .int z vs d) (hin : ¬ j < 0 ∧ j < z) (hv : vs.getD j.toNatClampNeg d = v) {g : JFrame} (hg : g.method = m) {rest : List Value} (hs : g.stack = .int j :: .ref a :: rest) (hd : decode c.code g.pc = .ok (.iaload, 1)) :
    ∀ target, Steps p.tables e below (T.setTop { g with pc := g.pc + 1, stack := v :: rest }) target → Steps p.tables e below (T.setTop g) target := by
  obtain ⟨cl, A, q1, S, q3, H, G⟩ := V
  have hin' := inb_of S hin
  exact X.iaload hx (by rw [eT]; exact A.1) (State.isArrayOf_alike hZ.alike A.2.1) A.2.2 hin' (H.at hin' hv) hg hs hd
theorem own_ldR (X : Stand p l e R s m args below meth c T locs cells slots) (hx : p.tables.exec = Jvm.exec) (hZ : Z.Warmed39 s.vm) (eT : T.heap = h) {a : Addr} {k : ClassId} {z j : Int32} {vs : List Value} {d v : Value} {C : String} (V : Arv Z h a k (.object C) z vs d) (hin : ¬ j < 0 ∧ j < z) (hv : vs.getD j.toNatClampNeg d = v) {g : JFrame} (hg : g.method = m) {rest : List Value} (hs : g.stack = .int j :: .ref a :: rest) (hd : decode c.code g.pc = .ok (.aaload, 1)) :
    ∀ target, Steps p.tables e below (T.setTop { g with pc := g.pc + 1, stack := v :: rest }) target → Steps p.tables e below (T.setTop g) target := by
  obtain ⟨cl, A, q1, S, q3, H, G⟩ := V
  have hin' := inb_of S hin
  exact X.aaload hx (by rw [eT]; exact A.1) (State.isArrayOf_alike hZ.alike A.2.1) rfl A.2.2 hin' (H.at hin' hv) hg hs hd
end OwnArr

def own_ref (q lh cf tk lp : Int64) : Int64 := if (0 : Int32) < lcmpW (q - lh) lp then q + tk else if lcmpW ((q + tk) - cf) (0 : Int64) < (0 : Int32) then cf else q + tk
theorem own_fldL {args : Array Value} {s : State} {t : Term} {a : Addr} {C n d : String} {k : Int64} (ev : t.eval args s none [] s = some (.ref a)) (h : (Jvm.Cond.eq (.field t C n d) (.long k)).value args s none s [] = some true) : Fld s s.heap a C n d (.long k) := by
  refine Fld.start ?_
  have h2 : (Term.field t C n d).eval args s none [] s = s.fieldOf? a C n d := by simp [Term.eval, ev]
  obtain ⟨x, y, e1, e2, k1, k2⟩ := cmp_v (Or.inl h)
  have e3 : y = .long k := (Option.some.inj e2).symm
  subst e3
  obtain ⟨z, rfl⟩ := k2
  have e4 : z = k := by simpa [Jvm.Cond.value, e1, e2] using h
  rw [← h2, e1, e4]

theorem d20_0 : decode prog_190_method_12_code 0 = .ok (.lload_n 1, 1) := by decide +kernel
theorem d20_1 : decode prog_190_method_12_code 1 = .ok (.aload_n 0, 1) := by decide +kernel
theorem d20_2 : decode prog_190_method_12_code 2 = .ok (.getfield 33, 3) := by decide +kernel
theorem d20_5 : decode prog_190_method_12_code 5 = .ok (.ladd, 1) := by decide +kernel
theorem d20_6 : decode prog_190_method_12_code 6 = .ok (.lstore_n 3, 1) := by decide +kernel
theorem d20_7 : decode prog_190_method_12_code 7 = .ok (.lload_n 1, 1) := by decide +kernel
theorem d20_8 : decode prog_190_method_12_code 8 = .ok (.aload_n 0, 1) := by decide +kernel
theorem d20_9 : decode prog_190_method_12_code 9 = .ok (.getfield 45, 3) := by decide +kernel
theorem d20_12 : decode prog_190_method_12_code 12 = .ok (.lsub, 1) := by decide +kernel
theorem d20_13 : decode prog_190_method_12_code 13 = .ok (.aload_n 0, 1) := by decide +kernel
theorem d20_14 : decode prog_190_method_12_code 14 = .ok (.getfield 39, 3) := by decide +kernel
theorem d20_17 : decode prog_190_method_12_code 17 = .ok (.lcmp, 1) := by decide +kernel
theorem d20_18 : decode prog_190_method_12_code 18 = .ok (.ifCond .le 5, 3) := by decide +kernel
theorem d20_21 : decode prog_190_method_12_code 21 = .ok (.lload_n 3, 1) := by decide +kernel
theorem d20_22 : decode prog_190_method_12_code 22 = .ok (.lreturn, 1) := by decide +kernel
theorem pn_20 : plainName "com/example/epochcast/epochcast/server/SessionLeases" = true := by first | (simp [plainName, overriddenIn]; done) | decide +kernel
theorem d20_23 : decode prog_190_method_12_code 23 = .ok (.aload_n 0, 1) := by decide +kernel
theorem d20_24 : decode prog_190_method_12_code 24 = .ok (.getfield 19, 3) := by decide +kernel
theorem d20_27 : decode prog_190_method_12_code 27 = .ok (.invokevirtual 164, 3) := by decide +kernel
theorem d22_0 : decode jdk_2655_method_15_code 0 = .ok (.aload_n 0, 1) := by decide +kernel
theorem d22_1 : decode jdk_2655_method_15_code 1 = .ok (.getfield 17, 3) := by decide +kernel
theorem d22_4 : decode jdk_2655_method_15_code 4 = .ok (.iconst 0, 1) := by decide +kernel
theorem d22_5 : decode jdk_2655_method_15_code 5 = .ok (.aaload, 1) := by decide +kernel
theorem d22_6 : decode jdk_2655_method_15_code 6 = .ok (.areturn, 1) := by decide +kernel
theorem pn_22 : plainName "java/util/PriorityQueue" = true := by first | (simp [plainName, overriddenIn]; done) | decide +kernel
theorem pd___Ljava_lang_Object_ : parseMethodDescriptor "()Ljava/lang/Object;" = some ⟨[], some (.object "java/lang/Object")⟩ := by decide +kernel
theorem d20_30 : decode prog_190_method_12_code 30 = .ok (.checkcast 167, 3) := by decide +kernel
theorem d20_33 : decode prog_190_method_12_code 33 = .ok (.astore 5, 2) := by decide +kernel
theorem d20_35 : decode prog_190_method_12_code 35 = .ok (.aload 5, 2) := by decide +kernel
theorem d20_37 : decode prog_190_method_12_code 37 = .ok (.ifnull 15, 3) := by decide +kernel
theorem d20_52 : decode prog_190_method_12_code 52 = .ok (.lload_n 3, 1) := by decide +kernel
theorem d20_53 : decode prog_190_method_12_code 53 = .ok (.goto 10, 3) := by decide +kernel
theorem d20_63 : decode prog_190_method_12_code 63 = .ok (.lstore 6, 2) := by decide +kernel
theorem d20_65 : decode prog_190_method_12_code 65 = .ok (.lload 6, 2) := by decide +kernel
theorem d20_67 : decode prog_190_method_12_code 67 = .ok (.aload_n 0, 1) := by decide +kernel
theorem d20_68 : decode prog_190_method_12_code 68 = .ok (.getfield 48, 3) := by decide +kernel
theorem d20_71 : decode prog_190_method_12_code 71 = .ok (.lsub, 1) := by decide +kernel
theorem d20_72 : decode prog_190_method_12_code 72 = .ok (.lconst 0, 1) := by decide +kernel
theorem d20_73 : decode prog_190_method_12_code 73 = .ok (.lcmp, 1) := by decide +kernel
theorem d20_74 : decode prog_190_method_12_code 74 = .ok (.ifCond .ge 10, 3) := by decide +kernel
theorem d20_77 : decode prog_190_method_12_code 77 = .ok (.aload_n 0, 1) := by decide +kernel
theorem d20_78 : decode prog_190_method_12_code 78 = .ok (.getfield 48, 3) := by decide +kernel
theorem d20_81 : decode prog_190_method_12_code 81 = .ok (.goto 5, 3) := by decide +kernel
theorem d20_86 : decode prog_190_method_12_code 86 = .ok (.lreturn, 1) := by decide +kernel
theorem d20_84 : decode prog_190_method_12_code 84 = .ok (.lload 6, 2) := by decide +kernel
theorem d21_0 : decode method_3_code 0 = .ok (.lload_n 0, 1) := by decide +kernel
theorem d21_1 : decode method_3_code 1 = .ok (.lload 6, 2) := by decide +kernel
theorem d21_3 : decode method_3_code 3 = .ok (.ladd, 1) := by decide +kernel
theorem d21_4 : decode method_3_code 4 = .ok (.lstore 10, 2) := by decide +kernel
theorem d21_6 : decode method_3_code 6 = .ok (.lload_n 0, 1) := by decide +kernel
theorem d21_7 : decode method_3_code 7 = .ok (.lload_n 2, 1) := by decide +kernel
theorem d21_8 : decode method_3_code 8 = .ok (.lsub, 1) := by decide +kernel
theorem d21_9 : decode method_3_code 9 = .ok (.lload 8, 2) := by decide +kernel
theorem d21_11 : decode method_3_code 11 = .ok (.lcmp, 1) := by decide +kernel
theorem d21_12 : decode method_3_code 12 = .ok (.ifCond .le 6, 3) := by decide +kernel
theorem d21_15 : decode method_3_code 15 = .ok (.lload 10, 2) := by decide +kernel
theorem d21_17 : decode method_3_code 17 = .ok (.lreturn, 1) := by decide +kernel
theorem pn_21 : plainName "com/example/epochcast/epochcast/server/SessionLeasesHeartbeatPinLaw" = true := by first | (simp [plainName, overriddenIn]; done) | decide +kernel
theorem d21_18 : decode method_3_code 18 = .ok (.lload 10, 2) := by decide +kernel
theorem d21_20 : decode method_3_code 20 = .ok (.lload 4, 2) := by decide +kernel
theorem d21_22 : decode method_3_code 22 = .ok (.lsub, 1) := by decide +kernel
theorem d21_23 : decode method_3_code 23 = .ok (.lconst 0, 1) := by decide +kernel
theorem d21_24 : decode method_3_code 24 = .ok (.lcmp, 1) := by decide +kernel
theorem d21_25 : decode method_3_code 25 = .ok (.ifCond .ge 6, 3) := by decide +kernel
theorem d21_28 : decode method_3_code 28 = .ok (.lload 4, 2) := by decide +kernel
theorem d21_30 : decode method_3_code 30 = .ok (.lreturn, 1) := by decide +kernel
theorem d21_31 : decode method_3_code 31 = .ok (.lload 10, 2) := by decide +kernel
theorem d21_33 : decode method_3_code 33 = .ok (.lreturn, 1) := by decide +kernel
theorem d1_0 : decode prog_190_method_1_code 0 = .ok (.aload_n 0, 1) := by decide +kernel
theorem d1_1 : decode prog_190_method_1_code 1 = .ok (.invokespecial 1, 3) := by decide +kernel
theorem d1_4 : decode prog_190_method_1_code 4 = .ok (.aload_n 0, 1) := by decide +kernel
theorem d1_5 : decode prog_190_method_1_code 5 = .ok (.new 7, 3) := by decide +kernel
theorem d1_8 : decode prog_190_method_1_code 8 = .ok (.dup, 1) := by decide +kernel
theorem d1_9 : decode prog_190_method_1_code 9 = .ok (.invokespecial 9, 3) := by decide +kernel
theorem d3_0 : decode jdk_69_method_7_code 0 = .ok (.aload_n 0, 1) := by decide +kernel
theorem d3_1 : decode jdk_69_method_7_code 1 = .ok (.invokespecial 43, 3) := by decide +kernel
theorem d4_0 : decode jdk_71_method_1_code 0 = .ok (.aload_n 0, 1) := by decide +kernel
theorem d4_1 : decode jdk_71_method_1_code 1 = .ok (.invokespecial 1, 3) := by decide +kernel
theorem d4_4 : decode jdk_71_method_1_code 4 = .ok (.return_, 1) := by decide +kernel
theorem pn_4 : plainName "java/util/AbstractMap" = true := by first | (simp [plainName, overriddenIn]; done) | decide +kernel
theorem pd___V : parseMethodDescriptor "()V" = some ⟨[], none⟩ := by decide +kernel
theorem d3_4 : decode jdk_69_method_7_code 4 = .ok (.aload_n 0, 1) := by decide +kernel
theorem d3_5 : decode jdk_69_method_7_code 5 = .ok (.ldc 92, 2) := by decide +kernel
theorem d3_7 : decode jdk_69_method_7_code 7 = .ok (.putfield 81, 3) := by decide +kernel
theorem d3_10 : decode jdk_69_method_7_code 10 = .ok (.return_, 1) := by decide +kernel
theorem pn_3 : plainName "java/util/HashMap" = true := by first | (simp [plainName, overriddenIn]; done) | decide +kernel
theorem d1_12 : decode prog_190_method_1_code 12 = .ok (.putfield 10, 3) := by decide +kernel
theorem d1_15 : decode prog_190_method_1_code 15 = .ok (.aload_n 0, 1) := by decide +kernel
theorem d1_16 : decode prog_190_method_1_code 16 = .ok (.new 16, 3) := by decide +kernel
theorem d1_19 : decode prog_190_method_1_code 19 = .ok (.dup, 1) := by decide +kernel
theorem d1_20 : decode prog_190_method_1_code 20 = .ok (.invokespecial 18, 3) := by decide +kernel
theorem d5_0 : decode jdk_2655_method_1_code 0 = .ok (.aload_n 0, 1) := by decide +kernel
theorem d5_1 : decode jdk_2655_method_1_code 1 = .ok (.bipush 11, 2) := by decide +kernel
theorem d5_3 : decode jdk_2655_method_1_code 3 = .ok (.aconst_null, 1) := by decide +kernel
theorem d5_4 : decode jdk_2655_method_1_code 4 = .ok (.invokespecial 3, 3) := by decide +kernel
theorem d6_0 : decode jdk_2655_method_4_code 0 = .ok (.aload_n 0, 1) := by decide +kernel
theorem d6_1 : decode jdk_2655_method_4_code 1 = .ok (.invokespecial 7, 3) := by decide +kernel
theorem d7_0 : decode jdk_2435_method_1_code 0 = .ok (.aload_n 0, 1) := by decide +kernel
theorem d7_1 : decode jdk_2435_method_1_code 1 = .ok (.invokespecial 1, 3) := by decide +kernel
theorem d8_0 : decode jdk_22_method_1_code 0 = .ok (.aload_n 0, 1) := by decide +kernel
theorem d8_1 : decode jdk_22_method_1_code 1 = .ok (.invokespecial 1, 3) := by decide +kernel
theorem d8_4 : decode jdk_22_method_1_code 4 = .ok (.return_, 1) := by decide +kernel
theorem pn_8 : plainName "java/util/AbstractCollection" = true := by first | (simp [plainName, overriddenIn]; done) | decide +kernel
theorem d7_4 : decode jdk_2435_method_1_code 4 = .ok (.return_, 1) := by decide +kernel
theorem pn_7 : plainName "java/util/AbstractQueue" = true := by first | (simp [plainName, overriddenIn]; done) | decide +kernel
theorem d6_4 : decode jdk_2655_method_4_code 4 = .ok (.iload_n 1, 1) := by decide +kernel
theorem d6_5 : decode jdk_2655_method_4_code 5 = .ok (.iconst 1, 1) := by decide +kernel
theorem d6_6 : decode jdk_2655_method_4_code 6 = .ok (.if_icmp .ge 11, 3) := by decide +kernel
theorem d6_17 : decode jdk_2655_method_4_code 17 = .ok (.aload_n 0, 1) := by decide +kernel
theorem d6_18 : decode jdk_2655_method_4_code 18 = .ok (.iload_n 1, 1) := by decide +kernel
theorem d6_19 : decode jdk_2655_method_4_code 19 = .ok (.anewarray 15, 3) := by decide +kernel
theorem d6_22 : decode jdk_2655_method_4_code 22 = .ok (.putfield 17, 3) := by decide +kernel
theorem d6_25 : decode jdk_2655_method_4_code 25 = .ok (.aload_n 0, 1) := by decide +kernel
theorem d6_26 : decode jdk_2655_method_4_code 26 = .ok (.aload_n 2, 1) := by decide +kernel
theorem d6_27 : decode jdk_2655_method_4_code 27 = .ok (.putfield 21, 3) := by decide +kernel
theorem d6_30 : decode jdk_2655_method_4_code 30 = .ok (.return_, 1) := by decide +kernel
theorem pn_6 : plainName "java/util/PriorityQueue" = true := by first | (simp [plainName, overriddenIn]; done) | decide +kernel
theorem pd__ILjava_util_Comparator__V : parseMethodDescriptor "(ILjava/util/Comparator;)V" = some ⟨[.int, (.object "java/util/Comparator")], none⟩ := by decide +kernel
theorem d5_7 : decode jdk_2655_method_1_code 7 = .ok (.return_, 1) := by decide +kernel
theorem pn_5 : plainName "java/util/PriorityQueue" = true := by first | (simp [plainName, overriddenIn]; done) | decide +kernel
theorem d1_23 : decode prog_190_method_1_code 23 = .ok (.putfield 19, 3) := by decide +kernel
theorem d1_26 : decode prog_190_method_1_code 26 = .ok (.aload_n 0, 1) := by decide +kernel
theorem d1_27 : decode prog_190_method_1_code 27 = .ok (.getstatic 23, 3) := by decide +kernel
theorem d1_30 : decode prog_190_method_1_code 30 = .ok (.iload_n 1, 1) := by decide +kernel
theorem d1_31 : decode prog_190_method_1_code 31 = .ok (.i2l, 1) := by decide +kernel
theorem d1_32 : decode prog_190_method_1_code 32 = .ok (.invokevirtual 29, 3) := by decide +kernel
theorem d9_0 : decode jdk_2799_method_7_code 0 = .ok (.aload_n 0, 1) := by decide +kernel
theorem d9_1 : decode jdk_2799_method_7_code 1 = .ok (.getfield 44, 3) := by decide +kernel
theorem d9_4 : decode jdk_2799_method_7_code 4 = .ok (.dup2, 1) := by decide +kernel
theorem d9_5 : decode jdk_2799_method_7_code 5 = .ok (.lstore_n 3, 1) := by decide +kernel
theorem d9_6 : decode jdk_2799_method_7_code 6 = .ok (.lconst 1, 1) := by decide +kernel
theorem d9_7 : decode jdk_2799_method_7_code 7 = .ok (.lcmp, 1) := by decide +kernel
theorem d9_8 : decode jdk_2799_method_7_code 8 = .ok (.ifCond .ne 5, 3) := by decide +kernel
theorem d9_13 : decode jdk_2799_method_7_code 13 = .ok (.lload_n 1, 1) := by decide +kernel
theorem d9_14 : decode jdk_2799_method_7_code 14 = .ok (.aload_n 0, 1) := by decide +kernel
theorem d9_15 : decode jdk_2799_method_7_code 15 = .ok (.getfield 52, 3) := by decide +kernel
theorem d9_18 : decode jdk_2799_method_7_code 18 = .ok (.dup2, 1) := by decide +kernel
theorem d9_19 : decode jdk_2799_method_7_code 19 = .ok (.lstore 5, 2) := by decide +kernel
theorem d9_21 : decode jdk_2799_method_7_code 21 = .ok (.lcmp, 1) := by decide +kernel
theorem d9_22 : decode jdk_2799_method_7_code 22 = .ok (.ifCond .le 7, 3) := by decide +kernel
theorem d9_29 : decode jdk_2799_method_7_code 29 = .ok (.lload_n 1, 1) := by decide +kernel
theorem d9_30 : decode jdk_2799_method_7_code 30 = .ok (.lload 5, 2) := by decide +kernel
theorem d9_32 : decode jdk_2799_method_7_code 32 = .ok (.lneg, 1) := by decide +kernel
theorem d9_33 : decode jdk_2799_method_7_code 33 = .ok (.lcmp, 1) := by decide +kernel
theorem d9_34 : decode jdk_2799_method_7_code 34 = .ok (.ifCond .ge 7, 3) := by decide +kernel
theorem d9_41 : decode jdk_2799_method_7_code 41 = .ok (.lload_n 1, 1) := by decide +kernel
theorem d9_42 : decode jdk_2799_method_7_code 42 = .ok (.lload_n 3, 1) := by decide +kernel
theorem d9_43 : decode jdk_2799_method_7_code 43 = .ok (.lmul, 1) := by decide +kernel
theorem d9_44 : decode jdk_2799_method_7_code 44 = .ok (.lreturn, 1) := by decide +kernel
theorem pn_9 : plainName "java/util/concurrent/TimeUnit" = true := by first | (simp [plainName, overriddenIn]; done) | decide +kernel
theorem pd__J_J : parseMethodDescriptor "(J)J" = some ⟨[.long], some .long⟩ := by decide +kernel
theorem d1_35 : decode prog_190_method_1_code 35 = .ok (.putfield 33, 3) := by decide +kernel
theorem d1_38 : decode prog_190_method_1_code 38 = .ok (.aload_n 0, 1) := by decide +kernel
theorem d1_39 : decode prog_190_method_1_code 39 = .ok (.aload_n 0, 1) := by decide +kernel
theorem d1_40 : decode prog_190_method_1_code 40 = .ok (.getfield 33, 3) := by decide +kernel
theorem d1_43 : decode prog_190_method_1_code 43 = .ok (.aload_n 0, 1) := by decide +kernel
theorem d1_44 : decode prog_190_method_1_code 44 = .ok (.getfield 33, 3) := by decide +kernel
theorem d1_47 : decode prog_190_method_1_code 47 = .ok (.ldc2_w 37, 3) := by decide +kernel
theorem d1_50 : decode prog_190_method_1_code 50 = .ok (.ldiv, 1) := by decide +kernel
theorem d1_51 : decode prog_190_method_1_code 51 = .ok (.ladd, 1) := by decide +kernel
theorem d1_52 : decode prog_190_method_1_code 52 = .ok (.putfield 39, 3) := by decide +kernel
theorem d1_55 : decode prog_190_method_1_code 55 = .ok (.return_, 1) := by decide +kernel
theorem pn_1 : plainName "com/example/epochcast/epochcast/server/SessionLeases" = true := by first | (simp [plainName, overriddenIn]; done) | decide +kernel
theorem pd__I_V : parseMethodDescriptor "(I)V" = some ⟨[.int], none⟩ := by decide +kernel
theorem d10_0 : decode jdk_38_method_2_code 0 = .ok (.aload_n 0, 1) := by decide +kernel
theorem d10_1 : decode jdk_38_method_2_code 1 = .ok (.invokespecial 1, 3) := by decide +kernel
theorem d11_0 : decode jdk_39_method_1_code 0 = .ok (.aload_n 0, 1) := by decide +kernel
theorem d11_1 : decode jdk_39_method_1_code 1 = .ok (.invokespecial 1, 3) := by decide +kernel
theorem d11_4 : decode jdk_39_method_1_code 4 = .ok (.aload_n 0, 1) := by decide +kernel
theorem d11_5 : decode jdk_39_method_1_code 5 = .ok (.iconst 0, 1) := by decide +kernel
theorem d11_6 : decode jdk_39_method_1_code 6 = .ok (.putfield 7, 3) := by decide +kernel
theorem d11_9 : decode jdk_39_method_1_code 9 = .ok (.return_, 1) := by decide +kernel
theorem pn_11 : plainName "java/util/AbstractList" = true := by first | (simp [plainName, overriddenIn]; done) | decide +kernel
theorem d10_4 : decode jdk_38_method_2_code 4 = .ok (.aload_n 0, 1) := by decide +kernel
theorem d10_5 : decode jdk_38_method_2_code 5 = .ok (.getstatic 39, 3) := by decide +kernel
theorem d10_8 : decode jdk_38_method_2_code 8 = .ok (.putfield 9, 3) := by decide +kernel
theorem d10_11 : decode jdk_38_method_2_code 11 = .ok (.return_, 1) := by decide +kernel
theorem pn_10 : plainName "java/util/ArrayList" = true := by first | (simp [plainName, overriddenIn]; done) | decide +kernel
theorem d12_0 : decode prog_190_method_2_code 0 = .ok (.aload_n 0, 1) := by decide +kernel
theorem d12_1 : decode prog_190_method_2_code 1 = .ok (.invokevirtual 42, 3) := by decide +kernel
theorem d13_0 : decode prog_190_method_4_code 0 = .ok (.aload_n 0, 1) := by decide +kernel
theorem d13_1 : decode prog_190_method_4_code 1 = .ok (.getfield 10, 3) := by decide +kernel
theorem d13_4 : decode prog_190_method_4_code 4 = .ok (.invokeinterface 90 1, 5) := by decide +kernel
theorem d14_0 : decode jdk_69_method_22_code 0 = .ok (.aload_n 0, 1) := by decide +kernel
theorem d14_1 : decode jdk_69_method_22_code 1 = .ok (.dup, 1) := by decide +kernel
theorem d14_2 : decode jdk_69_method_22_code 2 = .ok (.getfield 202, 3) := by decide +kernel
theorem d14_5 : decode jdk_69_method_22_code 5 = .ok (.iconst 1, 1) := by decide +kernel
theorem d14_6 : decode jdk_69_method_22_code 6 = .ok (.iadd, 1) := by decide +kernel
theorem d14_7 : decode jdk_69_method_22_code 7 = .ok (.putfield 202, 3) := by decide +kernel
theorem d14_10 : decode jdk_69_method_22_code 10 = .ok (.aload_n 0, 1) := by decide +kernel
theorem d14_11 : decode jdk_69_method_22_code 11 = .ok (.getfield 105, 3) := by decide +kernel
theorem d14_14 : decode jdk_69_method_22_code 14 = .ok (.dup, 1) := by decide +kernel
theorem d14_15 : decode jdk_69_method_22_code 15 = .ok (.astore_n 1, 1) := by decide +kernel
theorem d14_16 : decode jdk_69_method_22_code 16 = .ok (.ifnull 33, 3) := by decide +kernel
theorem d14_49 : decode jdk_69_method_22_code 49 = .ok (.return_, 1) := by decide +kernel
theorem pn_14 : plainName "java/util/HashMap" = true := by first | (simp [plainName, overriddenIn]; done) | decide +kernel
theorem d13_9 : decode prog_190_method_4_code 9 = .ok (.aload_n 0, 1) := by decide +kernel
theorem d13_10 : decode prog_190_method_4_code 10 = .ok (.getfield 19, 3) := by decide +kernel
theorem d13_13 : decode prog_190_method_4_code 13 = .ok (.invokevirtual 93, 3) := by decide +kernel
theorem d15_0 : decode jdk_2655_method_24_code 0 = .ok (.aload_n 0, 1) := by decide +kernel
theorem d15_1 : decode jdk_2655_method_24_code 1 = .ok (.dup, 1) := by decide +kernel
theorem d15_2 : decode jdk_2655_method_24_code 2 = .ok (.getfield 93, 3) := by decide +kernel
theorem d15_5 : decode jdk_2655_method_24_code 5 = .ok (.iconst 1, 1) := by decide +kernel
theorem d15_6 : decode jdk_2655_method_24_code 6 = .ok (.iadd, 1) := by decide +kernel
theorem d15_7 : decode jdk_2655_method_24_code 7 = .ok (.putfield 93, 3) := by decide +kernel
theorem d15_10 : decode jdk_2655_method_24_code 10 = .ok (.aload_n 0, 1) := by decide +kernel
theorem d15_11 : decode jdk_2655_method_24_code 11 = .ok (.getfield 17, 3) := by decide +kernel
theorem d15_14 : decode jdk_2655_method_24_code 14 = .ok (.astore_n 1, 1) := by decide +kernel
theorem d15_15 : decode jdk_2655_method_24_code 15 = .ok (.iconst 0, 1) := by decide +kernel
theorem d15_16 : decode jdk_2655_method_24_code 16 = .ok (.istore_n 2, 1) := by decide +kernel
theorem d15_17 : decode jdk_2655_method_24_code 17 = .ok (.aload_n 0, 1) := by decide +kernel
theorem d15_18 : decode jdk_2655_method_24_code 18 = .ok (.getfield 58, 3) := by decide +kernel
theorem d15_21 : decode jdk_2655_method_24_code 21 = .ok (.istore_n 3, 1) := by decide +kernel
theorem d15_22 : decode jdk_2655_method_24_code 22 = .ok (.iload_n 2, 1) := by decide +kernel
theorem d15_23 : decode jdk_2655_method_24_code 23 = .ok (.iload_n 3, 1) := by decide +kernel
theorem d15_24 : decode jdk_2655_method_24_code 24 = .ok (.if_icmp .ge 13, 3) := by decide +kernel
theorem d15_37 : decode jdk_2655_method_24_code 37 = .ok (.aload_n 0, 1) := by decide +kernel
theorem d15_38 : decode jdk_2655_method_24_code 38 = .ok (.iconst 0, 1) := by decide +kernel
theorem d15_39 : decode jdk_2655_method_24_code 39 = .ok (.putfield 58, 3) := by decide +kernel
theorem d15_42 : decode jdk_2655_method_24_code 42 = .ok (.return_, 1) := by decide +kernel
theorem pn_15 : plainName "java/util/PriorityQueue" = true := by first | (simp [plainName, overriddenIn]; done) | decide +kernel
theorem d13_16 : decode prog_190_method_4_code 16 = .ok (.return_, 1) := by decide +kernel
theorem pn_13 : plainName "com/example/epochcast/epochcast/server/SessionLeases" = true := by first | (simp [plainName, overriddenIn]; done) | decide +kernel
theorem d12_4 : decode prog_190_method_2_code 4 = .ok (.aload_n 0, 1) := by decide +kernel
theorem d12_5 : decode prog_190_method_2_code 5 = .ok (.lload_n 2, 1) := by decide +kernel
theorem d12_6 : decode prog_190_method_2_code 6 = .ok (.putfield 45, 3) := by decide +kernel
theorem d12_9 : decode prog_190_method_2_code 9 = .ok (.aload_n 0, 1) := by decide +kernel
theorem d12_10 : decode prog_190_method_2_code 10 = .ok (.lload_n 2, 1) := by decide +kernel
theorem d12_11 : decode prog_190_method_2_code 11 = .ok (.putfield 48, 3) := by decide +kernel
theorem d12_14 : decode prog_190_method_2_code 14 = .ok (.aload_n 1, 1) := by decide +kernel
theorem d12_15 : decode prog_190_method_2_code 15 = .ok (.invokeinterface 51 1, 5) := by decide +kernel
theorem d16_0 : decode jdk_38_method_55_code 0 = .ok (.new 267, 3) := by decide +kernel
theorem d16_3 : decode jdk_38_method_55_code 3 = .ok (.dup, 1) := by decide +kernel
theorem d16_4 : decode jdk_38_method_55_code 4 = .ok (.aload_n 0, 1) := by decide +kernel
theorem d16_5 : decode jdk_38_method_55_code 5 = .ok (.invokespecial 269, 3) := by decide +kernel
theorem d17_0 : decode jdk_49_method_1_code 0 = .ok (.aload_n 0, 1) := by decide +kernel
theorem d17_1 : decode jdk_49_method_1_code 1 = .ok (.aload_n 1, 1) := by decide +kernel
theorem d17_2 : decode jdk_49_method_1_code 2 = .ok (.putfield 1, 3) := by decide +kernel
theorem d17_5 : decode jdk_49_method_1_code 5 = .ok (.aload_n 0, 1) := by decide +kernel
theorem d17_6 : decode jdk_49_method_1_code 6 = .ok (.invokespecial 7, 3) := by decide +kernel
theorem d17_9 : decode jdk_49_method_1_code 9 = .ok (.aload_n 0, 1) := by decide +kernel
theorem d17_10 : decode jdk_49_method_1_code 10 = .ok (.iconst (-1), 1) := by decide +kernel
theorem d17_11 : decode jdk_49_method_1_code 11 = .ok (.putfield 13, 3) := by decide +kernel
theorem d17_14 : decode jdk_49_method_1_code 14 = .ok (.aload_n 0, 1) := by decide +kernel
theorem d17_15 : decode jdk_49_method_1_code 15 = .ok (.aload_n 0, 1) := by decide +kernel
theorem d17_16 : decode jdk_49_method_1_code 16 = .ok (.getfield 1, 3) := by decide +kernel
theorem d17_19 : decode jdk_49_method_1_code 19 = .ok (.getfield 17, 3) := by decide +kernel
theorem d17_22 : decode jdk_49_method_1_code 22 = .ok (.putfield 22, 3) := by decide +kernel
theorem d17_25 : decode jdk_49_method_1_code 25 = .ok (.return_, 1) := by decide +kernel
theorem pn_17 : plainName "java/util/ArrayList$Itr" = true := by first | (simp [plainName, overriddenIn]; done) | decide +kernel
theorem pd__Ljava_util_ArrayList__V : parseMethodDescriptor "(Ljava/util/ArrayList;)V" = some ⟨[(.object "java/util/ArrayList")], none⟩ := by decide +kernel
theorem d16_8 : decode jdk_38_method_55_code 8 = .ok (.areturn, 1) := by decide +kernel
theorem pn_16 : plainName "java/util/ArrayList" = true := by first | (simp [plainName, overriddenIn]; done) | decide +kernel
theorem pd___Ljava_util_Iterator_ : parseMethodDescriptor "()Ljava/util/Iterator;" = some ⟨[], some (.object "java/util/Iterator")⟩ := by decide +kernel
theorem d12_20 : decode prog_190_method_2_code 20 = .ok (.astore 4, 2) := by decide +kernel
theorem d12_22 : decode prog_190_method_2_code 22 = .ok (.aload 4, 2) := by decide +kernel
theorem d12_24 : decode prog_190_method_2_code 24 = .ok (.invokeinterface 57 1, 5) := by decide +kernel
theorem d18_0 : decode jdk_49_method_2_code 0 = .ok (.aload_n 0, 1) := by decide +kernel
theorem d18_1 : decode jdk_49_method_2_code 1 = .ok (.getfield 25, 3) := by decide +kernel
theorem d18_4 : decode jdk_49_method_2_code 4 = .ok (.aload_n 0, 1) := by decide +kernel
theorem d18_5 : decode jdk_49_method_2_code 5 = .ok (.getfield 1, 3) := by decide +kernel
theorem d18_8 : decode jdk_49_method_2_code 8 = .ok (.getfield 28, 3) := by decide +kernel
theorem d18_11 : decode jdk_49_method_2_code 11 = .ok (.if_icmp .eq 7, 3) := by decide +kernel
theorem d18_18 : decode jdk_49_method_2_code 18 = .ok (.iconst 0, 1) := by decide +kernel
theorem d18_19 : decode jdk_49_method_2_code 19 = .ok (.ireturn, 1) := by decide +kernel
theorem pn_18 : plainName "java/util/ArrayList$Itr" = true := by first | (simp [plainName, overriddenIn]; done) | decide +kernel
theorem pd___Z : parseMethodDescriptor "()Z" = some ⟨[], some .boolean⟩ := by decide +kernel
theorem d12_29 : decode prog_190_method_2_code 29 = .ok (.ifCond .eq 42, 3) := by decide +kernel
theorem d12_71 : decode prog_190_method_2_code 71 = .ok (.return_, 1) := by decide +kernel
theorem pn_12 : plainName "com/example/epochcast/epochcast/server/SessionLeases" = true := by first | (simp [plainName, overriddenIn]; done) | decide +kernel
theorem pd__Ljava_util_Collection_J_V : parseMethodDescriptor "(Ljava/util/Collection;J)V" = some ⟨[(.object "java/util/Collection"), .long], none⟩ := by decide +kernel
theorem d19_0 : decode prog_190_method_3_code 0 = .ok (.lload_n 1, 1) := by decide +kernel
theorem d19_1 : decode prog_190_method_3_code 1 = .ok (.aload_n 0, 1) := by decide +kernel
theorem d19_2 : decode prog_190_method_3_code 2 = .ok (.getfield 45, 3) := by decide +kernel
theorem d19_5 : decode prog_190_method_3_code 5 = .ok (.lsub, 1) := by decide +kernel
theorem d19_6 : decode prog_190_method_3_code 6 = .ok (.aload_n 0, 1) := by decide +kernel
theorem d19_7 : decode prog_190_method_3_code 7 = .ok (.getfield 39, 3) := by decide +kernel
theorem d19_10 : decode prog_190_method_3_code 10 = .ok (.lcmp, 1) := by decide +kernel
theorem d19_11 : decode prog_190_method_3_code 11 = .ok (.ifCond .le 13, 3) := by decide +kernel
theorem d19_14 : decode prog_190_method_3_code 14 = .ok (.aload_n 0, 1) := by decide +kernel
theorem d19_15 : decode prog_190_method_3_code 15 = .ok (.lload_n 1, 1) := by decide +kernel
theorem d19_16 : decode prog_190_method_3_code 16 = .ok (.aload_n 0, 1) := by decide +kernel
theorem d19_17 : decode prog_190_method_3_code 17 = .ok (.getfield 33, 3) := by decide +kernel
theorem d19_20 : decode prog_190_method_3_code 20 = .ok (.ladd, 1) := by decide +kernel
theorem d19_21 : decode prog_190_method_3_code 21 = .ok (.putfield 48, 3) := by decide +kernel
theorem d19_24 : decode prog_190_method_3_code 24 = .ok (.aload_n 0, 1) := by decide +kernel
theorem d19_25 : decode prog_190_method_3_code 25 = .ok (.lload_n 1, 1) := by decide +kernel
theorem d19_26 : decode prog_190_method_3_code 26 = .ok (.putfield 45, 3) := by decide +kernel
theorem d19_29 : decode prog_190_method_3_code 29 = .ok (.return_, 1) := by decide +kernel
theorem pn_19 : plainName "com/example/epochcast/epochcast/server/SessionLeases" = true := by first | (simp [plainName, overriddenIn]; done) | decide +kernel
theorem pd__J_V : parseMethodDescriptor "(J)V" = some ⟨[.long], none⟩ := by decide +kernel
theorem pd__JJJJJ_J : parseMethodDescriptor "(JJJJJ)J" = some ⟨[.long, .long, .long, .long, .long], some .long⟩ := by decide +kernel
theorem pn_0 : plainName "com/example/epochcast/epochcast/server/SessionLeasesHeartbeatPinLaw" = true := by first | (simp [plainName, overriddenIn]; done) | decide +kernel
def Q20_nxf (Z : State) (o1 : Addr) (vq : Int64) (tk : Int64) (lh : Int64) (lp : Int64) (cf : Int64) (h0 : Heap) (n0 : Nat) (v : Option Value) (h : Heap) (L : List Loc) : Prop := v = some (.long (own_ref vq lh cf tk lp)) ∧ Fr n0 L ∧ h = h0
set_option maxRecDepth 65536 in
set_option maxHeartbeats 40000000 in
theorem rm20_nxf (l : Launch) (Z : State) (a0 : Array Value) (hw : ∀ d ∈ tables_1, d.before a0 Z = true) (ws : List Jvm.Cond) (o1 : Addr) (vq : Int64) (tk : Int64) (lh : Int64) (lp : Int64) (cf : Int64) (h0 : Heap) (n0 : Nat) (Z0 : n0 ≤ h0.size) (F_tick_o1 : Fld Z h0 o1 "com/example/epochcast/epochcast/server/SessionLeases" "tick" "J" (.long tk)) (F_lastHeartbeat_o1 : Fld Z h0 o1 "com/example/epochcast/epochcast/server/SessionLeases" "lastHeartbeat" "J" (.long lh)) (F_lapse_o1 : Fld Z h0 o1 "com/example/epochcast/epochcast/server/SessionLeases" "lapse" "J" (.long lp)) (hc18 : (0 : Int32) < (lcmpW (vq - lh) lp)) (hret : (own_ref vq lh cf tk lp) = (vq + tk)) :
    MetFree l (⟨"com/example/epochcast/epochcast/server/SessionLeases", "nextCheck", "(J)J"⟩ : MethodName) (head1 (Jvm.Cond.code (⟨"com/example/epochcast/epochcast/server/SessionLeases", "nextCheck", "(J)J"⟩ : MethodName) prog_190_method_12_code 8 (some .long) :: ws) ({ frames := 1, cells := 0, slots := 0, locals := 12 } : Room)) (fun a U => a = #[(.ref o1), (.long vq)] ∧ Z.Warmed39 U.vm ∧ U.heap = h0) (fun _ _ _ _ _ => True) (fun _ U o U' => ∃ v L, o = .returned v ∧ Q20_nxf Z o1 vq tk lh lp cf h0 n0 v U'.heap L ∧ FrameEnd U o U' L ({ frames := 1, cells := 0, slots := 0, locals := 12 } : Room).cells ({ frames := 1, cells := 0, slots := 0, locals := 12 } : Room).slots) := by
  refine MetFree.of_bodySF (plainFor_of_name pn_20) hisR ?_
  intro p e s m args below meth c s₁ Bd hml0 hP hK
  obtain ⟨rfl, hZ, hh⟩ := hP
  have hx := Bd.exec
  have hby := Bd.bytes
  have hml : c.maxLocals = 8 := hml0
  have hown : s.vm.findClass "com/example/epochcast/epochcast/server/SessionLeases" = some m.cls := findClass_of_methodNamed Bd.named
  have hnm := (name_of_methodNamed Bd.named Bd.method).1
  have X0 : Stand p l e ({ frames := 1, cells := 0, slots := 0, locals := 12 } : Room) s m #[(.ref o1), (.long vq)] below meth c s₁ [] 0 0 := Stand.of_body Bd
  have e0 : s₁.heap = h0 := by rw [← hh, Bd.state]; rfl
  have N0 := Fr.nil n0
  have pre0 : ∀ t, Steps p.tables e below (s₁.setTop (mkF m 0 #[.val (.ref o1), .val (.long vq), .second, .unset, .unset, .unset, .unset, .unset] [])) t → Steps p.tables e below (s₁.setTop (entryFrame m #[(.ref o1), (.long vq)] 8)) t := fun t k => castTop (by first | (simp [entryFrame, mkF, argsToLocals, Value.category]; done) | rfl) k
  obtain ⟨T1, X1, e1, st1⟩ := getF X0 hx hZ hown (host := "") (Or.inl (hw _ (List.mem_of_getElem? (i := 72) rfl))) Via.refl e0 F_tick_o1 (g := (mkF m 2 #[.val (.ref o1), .val (.long vq), .second, .unset, .unset, .unset, .unset, .unset] [(.ref o1), (.long vq)])) rfl rfl (hb hby d20_2)
  obtain ⟨T2, X2, e2, st2⟩ := getF X1 hx hZ hown (host := "") (Or.inl (hw _ (List.mem_of_getElem? (i := 128) rfl))) Via.refl e1 F_lastHeartbeat_o1 (g := (mkF m 9 #[.val (.ref o1), .val (.long vq), .second, .val (.long (vq + tk)), .second, .unset, .unset, .unset] [(.ref o1), (.long vq)])) rfl rfl (hb hby d20_9)
  obtain ⟨T3, X3, e3, st3⟩ := getF X2 hx hZ hown (host := "") (Or.inl (hw _ (List.mem_of_getElem? (i := 75) rfl))) Via.refl e2 F_lapse_o1 (g := (mkF m 14 #[.val (.ref o1), .val (.long vq), .second, .val (.long (vq + tk)), .second, .unset, .unset, .unset] [(.ref o1), (.long (vq - lh))])) rfl rfl (hb hby d20_14)
  obtain ⟨fs, hr, hrun, hended, hW, hsame⟩ := X3.leave (v := some (.long (vq + tk))) (fun h => by rw [Bd.returns] at h; cases h)
  refine ⟨_, _, pre0 _ ?_, hrun, hended, _, _, rfl, ?_, ⟨_, rfl⟩, hW, hsame.mono (by decide) (by decide)⟩
  · show Steps p.tables e below (s₁.setTop (mkF m 0 #[.val (.ref o1), .val (.long vq), .second, .unset, .unset, .unset, .unset, .unset] [])) _
    refine XS.lloadN X0.here hx rfl (hb hby d20_0) rfl ?_
    show Steps p.tables e below (s₁.setTop (mkF m 1 #[.val (.ref o1), .val (.long vq), .second, .unset, .unset, .unset, .unset, .unset] [(.long vq)])) _
    refine XS.aloadN X0.here hx rfl (hb hby d20_1) rfl rfl ?_
    show Steps p.tables e below (s₁.setTop (mkF m 2 #[.val (.ref o1), .val (.long vq), .second, .unset, .unset, .unset, .unset, .unset] [(.ref o1), (.long vq)])) _
    refine st1 _ ?_
    show Steps p.tables e below (T1.setTop (mkF m 5 #[.val (.ref o1), .val (.long vq), .second, .unset, .unset, .unset, .unset, .unset] [(.long tk), (.long vq)])) _
    refine XS.ladd X1.here hx rfl (hb hby d20_5) rfl ?_
    show Steps p.tables e below (T1.setTop (mkF m 6 #[.val (.ref o1), .val (.long vq), .second, .unset, .unset, .unset, .unset, .unset] [(.long (vq + tk))])) _
    refine XS.lstoreN X1.here hx rfl (hb hby d20_6) rfl (l' := #[.val (.ref o1), .val (.long vq), .second, .val (.long (vq + tk)), .second, .unset, .unset, .unset]) rfl ?_
    show Steps p.tables e below (T1.setTop (mkF m 7 #[.val (.ref o1), .val (.long vq), .second, .val (.long (vq + tk)), .second, .unset, .unset, .unset] [])) _
    refine XS.lloadN X1.here hx rfl (hb hby d20_7) rfl ?_
    show Steps p.tables e below (T1.setTop (mkF m 8 #[.val (.ref o1), .val (.long vq), .second, .val (.long (vq + tk)), .second, .unset, .unset, .unset] [(.long vq)])) _
    refine XS.aloadN X1.here hx rfl (hb hby d20_8) rfl rfl ?_
    show Steps p.tables e below (T1.setTop (mkF m 9 #[.val (.ref o1), .val (.long vq), .second, .val (.long (vq + tk)), .second, .unset, .unset, .unset] [(.ref o1), (.long vq)])) _
    refine st2 _ ?_
    show Steps p.tables e below (T2.setTop (mkF m 12 #[.val (.ref o1), .val (.long vq), .second, .val (.long (vq + tk)), .second, .unset, .unset, .unset] [(.long lh), (.long vq)])) _
    refine XS.lsub X2.here hx rfl (hb hby d20_12) rfl ?_
    show Steps p.tables e below (T2.setTop (mkF m 13 #[.val (.ref o1), .val (.long vq), .second, .val (.long (vq + tk)), .second, .unset, .unset, .unset] [(.long (vq - lh))])) _
    refine XS.aloadN X2.here hx rfl (hb hby d20_13) rfl rfl ?_
    show Steps p.tables e below (T2.setTop (mkF m 14 #[.val (.ref o1), .val (.long vq), .second, .val (.long (vq + tk)), .second, .unset, .unset, .unset] [(.ref o1), (.long (vq - lh))])) _
    refine st3 _ ?_
    show Steps p.tables e below (T3.setTop (mkF m 17 #[.val (.ref o1), .val (.long vq), .second, .val (.long (vq + tk)), .second, .unset, .unset, .unset] [(.long lp), (.long (vq - lh))])) _
    refine XS.lcmp X3.here hx rfl (hb hby d20_17) rfl ?_
    show Steps p.tables e below (T3.setTop (mkF m 18 #[.val (.ref o1), .val (.long vq), .second, .val (.long (vq + tk)), .second, .unset, .unset, .unset] [(.int (lcmpW (vq - lh) lp))])) _
    refine XS.ifNo X3.here hx rfl (hb hby d20_18) rfl ((if0 _ _).trans (tlt hc18).2.2.2) ?_
    show Steps p.tables e below (T3.setTop (mkF m 21 #[.val (.ref o1), .val (.long vq), .second, .val (.long (vq + tk)), .second, .unset, .unset, .unset] [])) _
    refine XS.lloadN X3.here hx rfl (hb hby d20_21) rfl ?_
    show Steps p.tables e below (T3.setTop (mkF m 22 #[.val (.ref o1), .val (.long vq), .second, .val (.long (vq + tk)), .second, .unset, .unset, .unset] [(.long (vq + tk))])) _
    jvm_step X3.here [X3.here.top, hx, (hb hby d20_22), X3.method', Bd.returns, narrow]
    first | (intro acts; rw [hr _ acts rfl rfl rfl]) | rw [hr _ _ rfl rfl rfl]
    exact Steps.refl _
  · show Q20_nxf Z o1 vq tk lh lp cf h0 n0 _ T3.heap _
    rw [e3]
    exact ⟨(by rw [hret]), N0, rfl⟩
def Q22_o1 (Z : State) (o1 : Addr) (o2 : Addr) (kk_o2 : ClassId) (h0 : Heap) (n0 : Nat) (v : Option Value) (h : Heap) (L : List Loc) : Prop := v = some .null ∧ Fr n0 L ∧ h = h0
set_option maxRecDepth 65536 in
set_option maxHeartbeats 40000000 in
theorem rm22_o1 (l : Launch) (Z : State) (a0 : Array Value) (hw : ∀ d ∈ tables_1, d.before a0 Z = true) (ws : List Jvm.Cond) (o1 : Addr) (o2 : Addr) (kk_o2 : ClassId) (h0 : Heap) (n0 : Nat) (Z0 : n0 ≤ h0.size) (F_queue_o1 : Fld Z h0 o1 "java/util/PriorityQueue" "queue" "[Ljava/lang/Object;" (.ref o2)) (V_o2 : Arv Z h0 o2 kk_o2 (.object "java/lang/Object") (11 : Int32) [.null, .null, .null, .null, .null, .null, .null, .null, .null, .null, .null] .null) :
    MetFree l (⟨"java/util/PriorityQueue", "peek", "()Ljava/lang/Object;"⟩ : MethodName) (head1 (Jvm.Cond.code (⟨"java/util/PriorityQueue", "peek", "()Ljava/lang/Object;"⟩ : MethodName) jdk_2655_method_15_code 1 (some (.object "java/lang/Object")) :: ws) ({ frames := 0, cells := 0, slots := 0, locals := 0 } : Room)) (fun a U => a = #[(.ref o1)] ∧ Z.Warmed39 U.vm ∧ U.heap = h0) (fun _ _ _ _ _ => True) (fun _ U o U' => ∃ v L, o = .returned v ∧ Q22_o1 Z o1 o2 kk_o2 h0 n0 v U'.heap L ∧ FrameEnd U o U' L ({ frames := 0, cells := 0, slots := 0, locals := 0 } : Room).cells ({ frames := 0, cells := 0, slots := 0, locals := 0 } : Room).slots) := by
  refine MetFree.of_bodySF (plainFor_of_name pn_22) hisR ?_
  intro p e s m args below meth c s₁ Bd hml0 hP hK
  obtain ⟨rfl, hZ, hh⟩ := hP
  have hx := Bd.exec
  have hby := Bd.bytes
  have hml : c.maxLocals = 1 := hml0
  have hown : s.vm.findClass "java/util/PriorityQueue" = some m.cls := findClass_of_methodNamed Bd.named
  have hnm := (name_of_methodNamed Bd.named Bd.method).1
  have X0 : Stand p l e ({ frames := 0, cells := 0, slots := 0, locals := 0 } : Room) s m #[(.ref o1)] below meth c s₁ [] 0 0 := Stand.of_body Bd
  have e0 : s₁.heap = h0 := by rw [← hh, Bd.state]; rfl
  have N0 := Fr.nil n0
  have pre0 : ∀ t, Steps p.tables e below (s₁.setTop (mkF m 0 #[.val (.ref o1)] [])) t → Steps p.tables e below (s₁.setTop (entryFrame m #[(.ref o1)] 1)) t := fun t k => castTop (by first | (simp [entryFrame, mkF, argsToLocals, Value.category]; done) | rfl) k
  obtain ⟨T1, X1, e1, st1⟩ := getF X0 hx hZ hown (host := "") (Or.inl (hw _ (List.mem_of_getElem? (i := 55) rfl))) Via.refl e0 F_queue_o1 (g := (mkF m 1 #[.val (.ref o1)] [(.ref o1)])) rfl rfl (hb hby d22_1)
  obtain ⟨fs, hr, hrun, hended, hW, hsame⟩ := X1.leave (v := some .null) (fun h => by rw [Bd.returns] at h; cases h)
  refine ⟨_, _, pre0 _ ?_, hrun, hended, _, _, rfl, ?_, ⟨_, rfl⟩, hW, hsame.mono (by decide) (by decide)⟩
  · show Steps p.tables e below (s₁.setTop (mkF m 0 #[.val (.ref o1)] [])) _
    refine XS.aloadN X0.here hx rfl (hb hby d22_0) rfl rfl ?_
    show Steps p.tables e below (s₁.setTop (mkF m 1 #[.val (.ref o1)] [(.ref o1)])) _
    refine st1 _ ?_
    show Steps p.tables e below (T1.setTop (mkF m 4 #[.val (.ref o1)] [(.ref o2)])) _
    refine XS.iconst X1.here hx rfl (hb hby d22_4) ?_
    show Steps p.tables e below (T1.setTop (mkF m 5 #[.val (.ref o1)] [(.int 0), (.ref o2)])) _
    refine own_ldR X1 hx hZ e1 V_o2 (j := (0 : Int32)) ⟨by decide, by decide⟩ rfl (g := (mkF m 5 #[.val (.ref o1)] [(.int 0), (.ref o2)])) rfl rfl (hb hby d22_5) _ ?_
    show Steps p.tables e below (T1.setTop (mkF m 6 #[.val (.ref o1)] [.null])) _
    jvm_step X1.here [X1.here.top, hx, (hb hby d22_6), X1.method', Bd.returns, Value.isRef, FieldType.isReference]
    first | (intro acts; rw [hr _ acts rfl rfl rfl]) | rw [hr _ _ rfl rfl rfl]
    exact Steps.refl _
  · show Q22_o1 Z o1 o2 kk_o2 h0 n0 _ T1.heap _
    rw [e1]
    exact ⟨rfl, N0, rfl⟩
def Q20_nxtf (Z : State) (o1 : Addr) (vq : Int64) (tk : Int64) (lh : Int64) (lp : Int64) (o2 : Addr) (o3 : Addr) (kq : ClassId) (cf : Int64) (h0 : Heap) (n0 : Nat) (v : Option Value) (h : Heap) (L : List Loc) : Prop := v = some (.long (own_ref vq lh cf tk lp)) ∧ Fr n0 L ∧ h = h0
set_option maxRecDepth 65536 in
set_option maxHeartbeats 40000000 in
theorem rm20_nxtf (l : Launch) (Z : State) (a0 : Array Value) (hw : ∀ d ∈ tables_1, d.before a0 Z = true) (ws : List Jvm.Cond) (o1 : Addr) (vq : Int64) (tk : Int64) (lh : Int64) (lp : Int64) (o2 : Addr) (o3 : Addr) (kq : ClassId) (cf : Int64) (h0 : Heap) (n0 : Nat) (Z0 : n0 ≤ h0.size) (F_tick_o1 : Fld Z h0 o1 "com/example/epochcast/epochcast/server/SessionLeases" "tick" "J" (.long tk)) (F_lastHeartbeat_o1 : Fld Z h0 o1 "com/example/epochcast/epochcast/server/SessionLeases" "lastHeartbeat" "J" (.long lh)) (F_lapse_o1 : Fld Z h0 o1 "com/example/epochcast/epochcast/server/SessionLeases" "lapse" "J" (.long lp)) (hc18 : ¬ ((0 : Int32) < (lcmpW (vq - lh) lp))) (F_due_o1 : Fld Z h0 o1 "com/example/epochcast/epochcast/server/SessionLeases" "due" "Ljava/util/PriorityQueue;" (.ref o2)) (F_queue_o2 : Fld Z h0 o2 "java/util/PriorityQueue" "queue" "[Ljava/lang/Object;" (.ref o3)) (V_o3 : Arv Z h0 o3 kq (.object "java/lang/Object") (11 : Int32) [.null, .null, .null, .null, .null, .null, .null, .null, .null, .null, .null] .null) (E_o2 : Exa Z h0 o2 "java/util/PriorityQueue") (F_countingFrom_o1 : Fld Z h0 o1 "com/example/epochcast/epochcast/server/SessionLeases" "countingFrom" "J" (.long cf)) (hc74 : (lcmpW ((vq + tk) - cf) (0 : Int64)) < (0 : Int32)) (hret : (own_ref vq lh cf tk lp) = cf) :
    MetFree l (⟨"com/example/epochcast/epochcast/server/SessionLeases", "nextCheck", "(J)J"⟩ : MethodName) (head1 (Jvm.Cond.code (⟨"com/example/epochcast/epochcast/server/SessionLeases", "nextCheck", "(J)J"⟩ : MethodName) prog_190_method_12_code 8 (some .long) :: ws) ({ frames := 1, cells := 0, slots := 0, locals := 12 } : Room)) (fun a U => a = #[(.ref o1), (.long vq)] ∧ Z.Warmed39 U.vm ∧ U.heap = h0) (fun _ _ _ _ _ => True) (fun _ U o U' => ∃ v L, o = .returned v ∧ Q20_nxtf Z o1 vq tk lh lp o2 o3 kq cf h0 n0 v U'.heap L ∧ FrameEnd U o U' L ({ frames := 1, cells := 0, slots := 0, locals := 12 } : Room).cells ({ frames := 1, cells := 0, slots := 0, locals := 12 } : Room).slots) := by
  refine MetFree.of_bodySF (plainFor_of_name pn_20) hisR ?_
  intro p e s m args below meth c s₁ Bd hml0 hP hK
  obtain ⟨rfl, hZ, hh⟩ := hP
  have hx := Bd.exec
  have hby := Bd.bytes
  have hml : c.maxLocals = 8 := hml0
  have hown : s.vm.findClass "com/example/epochcast/epochcast/server/SessionLeases" = some m.cls := findClass_of_methodNamed Bd.named
  have hnm := (name_of_methodNamed Bd.named Bd.method).1
  have X0 : Stand p l e ({ frames := 1, cells := 0, slots := 0, locals := 12 } : Room) s m #[(.ref o1), (.long vq)] below meth c s₁ [] 0 0 := Stand.of_body Bd
  have e0 : s₁.heap = h0 := by rw [← hh, Bd.state]; rfl
  have N0 := Fr.nil n0
  have pre0 : ∀ t, Steps p.tables e below (s₁.setTop (mkF m 0 #[.val (.ref o1), .val (.long vq), .second, .unset, .unset, .unset, .unset, .unset] [])) t → Steps p.tables e below (s₁.setTop (entryFrame m #[(.ref o1), (.long vq)] 8)) t := fun t k => castTop (by first | (simp [entryFrame, mkF, argsToLocals, Value.category]; done) | rfl) k
  obtain ⟨T1, X1, e1, st1⟩ := getF X0 hx hZ hown (host := "") (Or.inl (hw _ (List.mem_of_getElem? (i := 72) rfl))) Via.refl e0 F_tick_o1 (g := (mkF m 2 #[.val (.ref o1), .val (.long vq), .second, .unset, .unset, .unset, .unset, .unset] [(.ref o1), (.long vq)])) rfl rfl (hb hby d20_2)
  obtain ⟨T2, X2, e2, st2⟩ := getF X1 hx hZ hown (host := "") (Or.inl (hw _ (List.mem_of_getElem? (i := 128) rfl))) Via.refl e1 F_lastHeartbeat_o1 (g := (mkF m 9 #[.val (.ref o1), .val (.long vq), .second, .val (.long (vq + tk)), .second, .unset, .unset, .unset] [(.ref o1), (.long vq)])) rfl rfl (hb hby d20_9)
  obtain ⟨T3, X3, e3, st3⟩ := getF X2 hx hZ hown (host := "") (Or.inl (hw _ (List.mem_of_getElem? (i := 75) rfl))) Via.refl e2 F_lapse_o1 (g := (mkF m 14 #[.val (.ref o1), .val (.long vq), .second, .val (.long (vq + tk)), .second, .unset, .unset, .unset] [(.ref o1), (.long (vq - lh))])) rfl rfl (hb hby d20_14)
  obtain ⟨T4, X4, e4, st4⟩ := getF X3 hx hZ hown (host := "") (Or.inl (hw _ (List.mem_of_getElem? (i := 59) rfl))) Via.refl e3 F_due_o1 (g := (mkF m 24 #[.val (.ref o1), .val (.long vq), .second, .val (.long (vq + tk)), .second, .unset, .unset, .unset] [(.ref o1)])) rfl rfl (hb hby d20_24)
  obtain ⟨cq5, kq5, q5a, q5b, q5c⟩ := isOf hZ e4 E_o2
  obtain ⟨_, _, ⟨T5, L5, k5, n5⟩, -, X5, ⟨Lc5, hQ5, l5, y5, z5⟩, st5⟩ := X4.virtualBack hx (y := (⟨"java/util/PriorityQueue", "peek", "()Ljava/lang/Object;"⟩ : MethodName)) (z := (⟨"java/util/PriorityQueue", "peek", "()Ljava/lang/Object;"⟩ : MethodName)) hown (mvT hZ (hw _ (List.mem_of_getElem? (i := 184) rfl))) (mvT hZ (hw _ (List.mem_of_getElem? (i := 185) rfl))) (notFace_of_selects (args := #[]) (mvT hZ (hw _ (List.mem_of_getElem? (i := 187) rfl)))) (mvT hZ (hw _ (List.mem_of_getElem? (i := 187) rfl))) (mvT hZ (hw _ (List.mem_of_getElem? (i := 186) rfl))) (by decide) (backOf (W := 0) (rm22_o1 l Z a0 hw [] o2 o3 kq h0 n0 Z0 F_queue_o2 V_o3) hZ (hw _ (List.mem_of_getElem? (i := 188) rfl)) (hw _ (List.mem_of_getElem? (i := 32) rfl)) (by decide) (by decide)) q5a q5c (g := (mkF m 27 #[.val (.ref o1), .val (.long vq), .second, .val (.long (vq + tk)), .second, .unset, .unset, .unset] [(.ref o2)])) rfl (by rw [hml]; rfl) (Steps.refl _) (argsL := []) (rest := []) (lenOf pd___Ljava_lang_Object_ rfl) rfl (by show 2 * 0 + _ ≤ _; exact Nat.le_of_eq rfl) (hb hby d20_27) (fun _ _ => ⟨rfl, e4, (by decide : 0 + 0 ≤ _), (by decide : 0 + 0 ≤ _)⟩)
  dsimp only [Pt.U, Pt.locs, Pt.cells, Pt.slots] at X5 l5 y5 z5 st5 hQ5
  subst l5 y5 z5
  obtain ⟨rfl, N5q, e5⟩ := hQ5
  have N5 := Fr.app N0 N5q
  obtain ⟨T6, X6, e6, st6⟩ := getF X5 hx hZ hown (host := "") (Or.inl (hw _ (List.mem_of_getElem? (i := 130) rfl))) Via.refl e5 F_countingFrom_o1 (g := (mkF m 68 #[.val (.ref o1), .val (.long vq), .second, .val (.long (vq + tk)), .second, .val .null, .val (.long (vq + tk)), .second] [(.ref o1), (.long (vq + tk))])) rfl rfl (hb hby d20_68)
  obtain ⟨T7, X7, e7, st7⟩ := getF X6 hx hZ hown (host := "") (Or.inl (hw _ (List.mem_of_getElem? (i := 130) rfl))) Via.refl e6 F_countingFrom_o1 (g := (mkF m 78 #[.val (.ref o1), .val (.long vq), .second, .val (.long (vq + tk)), .second, .val .null, .val (.long (vq + tk)), .second] [(.ref o1)])) rfl rfl (hb hby d20_78)
  obtain ⟨fs, hr, hrun, hended, hW, hsame⟩ := X7.leave (v := some (.long cf)) (fun h => by rw [Bd.returns] at h; cases h)
  refine ⟨_, _, pre0 _ ?_, hrun, hended, _, _, rfl, ?_, ⟨_, rfl⟩, hW, hsame.mono (by decide) (by decide)⟩
  · show Steps p.tables e below (s₁.setTop (mkF m 0 #[.val (.ref o1), .val (.long vq), .second, .unset, .unset, .unset, .unset, .unset] [])) _
    refine XS.lloadN X0.here hx rfl (hb hby d20_0) rfl ?_
    show Steps p.tables e below (s₁.setTop (mkF m 1 #[.val (.ref o1), .val (.long vq), .second, .unset, .unset, .unset, .unset, .unset] [(.long vq)])) _
    refine XS.aloadN X0.here hx rfl (hb hby d20_1) rfl rfl ?_
    show Steps p.tables e below (s₁.setTop (mkF m 2 #[.val (.ref o1), .val (.long vq), .second, .unset, .unset, .unset, .unset, .unset] [(.ref o1), (.long vq)])) _
    refine st1 _ ?_
    show Steps p.tables e below (T1.setTop (mkF m 5 #[.val (.ref o1), .val (.long vq), .second, .unset, .unset, .unset, .unset, .unset] [(.long tk), (.long vq)])) _
    refine XS.ladd X1.here hx rfl (hb hby d20_5) rfl ?_
    show Steps p.tables e below (T1.setTop (mkF m 6 #[.val (.ref o1), .val (.long vq), .second, .unset, .unset, .unset, .unset, .unset] [(.long (vq + tk))])) _
    refine XS.lstoreN X1.here hx rfl (hb hby d20_6) rfl (l' := #[.val (.ref o1), .val (.long vq), .second, .val (.long (vq + tk)), .second, .unset, .unset, .unset]) rfl ?_
    show Steps p.tables e below (T1.setTop (mkF m 7 #[.val (.ref o1), .val (.long vq), .second, .val (.long (vq + tk)), .second, .unset, .unset, .unset] [])) _
    refine XS.lloadN X1.here hx rfl (hb hby d20_7) rfl ?_
    show Steps p.tables e below (T1.setTop (mkF m 8 #[.val (.ref o1), .val (.long vq), .second, .val (.long (vq + tk)), .second, .unset, .unset, .unset] [(.long vq)])) _
    refine XS.aloadN X1.here hx rfl (hb hby d20_8) rfl rfl ?_
    show Steps p.tables e below (T1.setTop (mkF m 9 #[.val (.ref o1), .val (.long vq), .second, .val (.long (vq + tk)), .second, .unset, .unset, .unset] [(.ref o1), (.long vq)])) _
    refine st2 _ ?_
    show Steps p.tables e below (T2.setTop (mkF m 12 #[.val (.ref o1), .val (.long vq), .second, .val (.long (vq + tk)), .second, .unset, .unset, .unset] [(.long lh), (.long vq)])) _
    refine XS.lsub X2.here hx rfl (hb hby d20_12) rfl ?_
    show Steps p.tables e below (T2.setTop (mkF m 13 #[.val (.ref o1), .val (.long vq), .second, .val (.long (vq + tk)), .second, .unset, .unset, .unset] [(.long (vq - lh))])) _
    refine XS.aloadN X2.here hx rfl (hb hby d20_13) rfl rfl ?_
    show Steps p.tables e below (T2.setTop (mkF m 14 #[.val (.ref o1), .val (.long vq), .second, .val (.long (vq + tk)), .second, .unset, .unset, .unset] [(.ref o1), (.long (vq - lh))])) _
    refine st3 _ ?_
    show Steps p.tables e below (T3.setTop (mkF m 17 #[.val (.ref o1), .val (.long vq), .second, .val (.long (vq + tk)), .second, .unset, .unset, .unset] [(.long lp), (.long (vq - lh))])) _
    refine XS.lcmp X3.here hx rfl (hb hby d20_17) rfl ?_
    show Steps p.tables e below (T3.setTop (mkF m 18 #[.val (.ref o1), .val (.long vq), .second, .val (.long (vq + tk)), .second, .unset, .unset, .unset] [(.int (lcmpW (vq - lh) lp))])) _
    refine XS.ifYes X3.here hx rfl (pc0 := 18) (pc' := 23) rfl (hb hby d20_18) rfl ((if0 _ _).trans (flt hc18).2.2.2) (by decide) (by decide) ?_
    show Steps p.tables e below (T3.setTop (mkF m 23 #[.val (.ref o1), .val (.long vq), .second, .val (.long (vq + tk)), .second, .unset, .unset, .unset] [])) _
    refine XS.aloadN X3.here hx rfl (hb hby d20_23) rfl rfl ?_
    show Steps p.tables e below (T3.setTop (mkF m 24 #[.val (.ref o1), .val (.long vq), .second, .val (.long (vq + tk)), .second, .unset, .unset, .unset] [(.ref o1)])) _
    refine st4 _ ?_
    show Steps p.tables e below (T4.setTop (mkF m 27 #[.val (.ref o1), .val (.long vq), .second, .val (.long (vq + tk)), .second, .unset, .unset, .unset] [(.ref o2)])) _
    refine st5.trans ?_
    show Steps p.tables e below (T5.setTop (mkF m 30 #[.val (.ref o1), .val (.long vq), .second, .val (.long (vq + tk)), .second, .unset, .unset, .unset] [.null])) _
    refine X5.checkcastNull hx (g := (mkF m 30 #[.val (.ref o1), .val (.long vq), .second, .val (.long (vq + tk)), .second, .unset, .unset, .unset] [.null])) rfl rfl (hb hby d20_30) _ ?_
    show Steps p.tables e below (T5.setTop (mkF m 33 #[.val (.ref o1), .val (.long vq), .second, .val (.long (vq + tk)), .second, .unset, .unset, .unset] [.null])) _
    refine XS.astore X5.here hx rfl (hb hby d20_33) rfl rfl (l' := #[.val (.ref o1), .val (.long vq), .second, .val (.long (vq + tk)), .second, .val .null, .unset, .unset]) rfl ?_
    show Steps p.tables e below (T5.setTop (mkF m 35 #[.val (.ref o1), .val (.long vq), .second, .val (.long (vq + tk)), .second, .val .null, .unset, .unset] [])) _
    refine XS.aload X5.here hx rfl (hb hby d20_35) rfl rfl ?_
    show Steps p.tables e below (T5.setTop (mkF m 37 #[.val (.ref o1), .val (.long vq), .second, .val (.long (vq + tk)), .second, .val .null, .unset, .unset] [.null])) _
    refine XS.ifnullYes X5.here hx rfl (pc0 := 37) (pc' := 52) rfl (hb hby d20_37) rfl (by decide) (by decide) ?_
    show Steps p.tables e below (T5.setTop (mkF m 52 #[.val (.ref o1), .val (.long vq), .second, .val (.long (vq + tk)), .second, .val .null, .unset, .unset] [])) _
    refine XS.lloadN X5.here hx rfl (hb hby d20_52) rfl ?_
    show Steps p.tables e below (T5.setTop (mkF m 53 #[.val (.ref o1), .val (.long vq), .second, .val (.long (vq + tk)), .second, .val .null, .unset, .unset] [(.long (vq + tk))])) _
    refine XS.goto X5.here hx rfl (pc0 := 53) (pc' := 63) rfl (hb hby d20_53) (by decide) (by decide) ?_
    show Steps p.tables e below (T5.setTop (mkF m 63 #[.val (.ref o1), .val (.long vq), .second, .val (.long (vq + tk)), .second, .val .null, .unset, .unset] [(.long (vq + tk))])) _
    refine XS.lstore X5.here hx rfl (hb hby d20_63) rfl (l' := #[.val (.ref o1), .val (.long vq), .second, .val (.long (vq + tk)), .second, .val .null, .val (.long (vq + tk)), .second]) rfl ?_
    show Steps p.tables e below (T5.setTop (mkF m 65 #[.val (.ref o1), .val (.long vq), .second, .val (.long (vq + tk)), .second, .val .null, .val (.long (vq + tk)), .second] [])) _
    refine XS.lload X5.here hx rfl (hb hby d20_65) rfl ?_
    show Steps p.tables e below (T5.setTop (mkF m 67 #[.val (.ref o1), .val (.long vq), .second, .val (.long (vq + tk)), .second, .val .null, .val (.long (vq + tk)), .second] [(.long (vq + tk))])) _
    refine XS.aloadN X5.here hx rfl (hb hby d20_67) rfl rfl ?_
    show Steps p.tables e below (T5.setTop (mkF m 68 #[.val (.ref o1), .val (.long vq), .second, .val (.long (vq + tk)), .second, .val .null, .val (.long (vq + tk)), .second] [(.ref o1), (.long (vq + tk))])) _
    refine st6 _ ?_
    show Steps p.tables e below (T6.setTop (mkF m 71 #[.val (.ref o1), .val (.long vq), .second, .val (.long (vq + tk)), .second, .val .null, .val (.long (vq + tk)), .second] [(.long cf), (.long (vq + tk))])) _
    refine XS.lsub X6.here hx rfl (hb hby d20_71) rfl ?_
    show Steps p.tables e below (T6.setTop (mkF m 72 #[.val (.ref o1), .val (.long vq), .second, .val (.long (vq + tk)), .second, .val .null, .val (.long (vq + tk)), .second] [(.long ((vq + tk) - cf))])) _
    refine XS.lconst X6.here hx rfl (hb hby d20_72) ?_
    show Steps p.tables e below (T6.setTop (mkF m 73 #[.val (.ref o1), .val (.long vq), .second, .val (.long (vq + tk)), .second, .val .null, .val (.long (vq + tk)), .second] [(.long 0), (.long ((vq + tk) - cf))])) _
    refine XS.lcmp X6.here hx rfl (hb hby d20_73) rfl ?_
    show Steps p.tables e below (T6.setTop (mkF m 74 #[.val (.ref o1), .val (.long vq), .second, .val (.long (vq + tk)), .second, .val .null, .val (.long (vq + tk)), .second] [(.int (lcmpW ((vq + tk) - cf) (0 : Int64)))])) _
    refine XS.ifNo X6.here hx rfl (hb hby d20_74) rfl ((if0 _ _).trans (tlt hc74).2.1) ?_
    show Steps p.tables e below (T6.setTop (mkF m 77 #[.val (.ref o1), .val (.long vq), .second, .val (.long (vq + tk)), .second, .val .null, .val (.long (vq + tk)), .second] [])) _
    refine XS.aloadN X6.here hx rfl (hb hby d20_77) rfl rfl ?_
    show Steps p.tables e below (T6.setTop (mkF m 78 #[.val (.ref o1), .val (.long vq), .second, .val (.long (vq + tk)), .second, .val .null, .val (.long (vq + tk)), .second] [(.ref o1)])) _
    refine st7 _ ?_
    show Steps p.tables e below (T7.setTop (mkF m 81 #[.val (.ref o1), .val (.long vq), .second, .val (.long (vq + tk)), .second, .val .null, .val (.long (vq + tk)), .second] [(.long cf)])) _
    refine XS.goto X7.here hx rfl (pc0 := 81) (pc' := 86) rfl (hb hby d20_81) (by decide) (by decide) ?_
    show Steps p.tables e below (T7.setTop (mkF m 86 #[.val (.ref o1), .val (.long vq), .second, .val (.long (vq + tk)), .second, .val .null, .val (.long (vq + tk)), .second] [(.long cf)])) _
    jvm_step X7.here [X7.here.top, hx, (hb hby d20_86), X7.method', Bd.returns, narrow]
    first | (intro acts; rw [hr _ acts rfl rfl rfl]) | rw [hr _ _ rfl rfl rfl]
    exact Steps.refl _
  · show Q20_nxtf Z o1 vq tk lh lp o2 o3 kq cf h0 n0 _ T7.heap _
    rw [e7]
    exact ⟨(by rw [hret]), N5, rfl⟩
def Q20_nxtt (Z : State) (o1 : Addr) (vq : Int64) (tk : Int64) (lh : Int64) (lp : Int64) (o2 : Addr) (o3 : Addr) (kq : ClassId) (cf : Int64) (h0 : Heap) (n0 : Nat) (v : Option Value) (h : Heap) (L : List Loc) : Prop := v = some (.long (own_ref vq lh cf tk lp)) ∧ Fr n0 L ∧ h = h0
set_option maxRecDepth 65536 in
set_option maxHeartbeats 40000000 in
theorem rm20_nxtt (l : Launch) (Z : State) (a0 : Array Value) (hw : ∀ d ∈ tables_1, d.before a0 Z = true) (ws : List Jvm.Cond) (o1 : Addr) (vq : Int64) (tk : Int64) (lh : Int64) (lp : Int64) (o2 : Addr) (o3 : Addr) (kq : ClassId) (cf : Int64) (h0 : Heap) (n0 : Nat) (Z0 : n0 ≤ h0.size) (F_tick_o1 : Fld Z h0 o1 "com/example/epochcast/epochcast/server/SessionLeases" "tick" "J" (.long tk)) (F_lastHeartbeat_o1 : Fld Z h0 o1 "com/example/epochcast/epochcast/server/SessionLeases" "lastHeartbeat" "J" (.long lh)) (F_lapse_o1 : Fld Z h0 o1 "com/example/epochcast/epochcast/server/SessionLeases" "lapse" "J" (.long lp)) (hc18 : ¬ ((0 : Int32) < (lcmpW (vq - lh) lp))) (F_due_o1 : Fld Z h0 o1 "com/example/epochcast/epochcast/server/SessionLeases" "due" "Ljava/util/PriorityQueue;" (.ref o2)) (F_queue_o2 : Fld Z h0 o2 "java/util/PriorityQueue" "queue" "[Ljava/lang/Object;" (.ref o3)) (V_o3 : Arv Z h0 o3 kq (.object "java/lang/Object") (11 : Int32) [.null, .null, .null, .null, .null, .null, .null, .null, .null, .null, .null] .null) (E_o2 : Exa Z h0 o2 "java/util/PriorityQueue") (F_countingFrom_o1 : Fld Z h0 o1 "com/example/epochcast/epochcast/server/SessionLeases" "countingFrom" "J" (.long cf)) (hc74 : ¬ ((lcmpW ((vq + tk) - cf) (0 : Int64)) < (0 : Int32))) (hret : (own_ref vq lh cf tk lp) = (vq + tk)) :
    MetFree l (⟨"com/example/epochcast/epochcast/server/SessionLeases", "nextCheck", "(J)J"⟩ : MethodName) (head1 (Jvm.Cond.code (⟨"com/example/epochcast/epochcast/server/SessionLeases", "nextCheck", "(J)J"⟩ : MethodName) prog_190_method_12_code 8 (some .long) :: ws) ({ frames := 1, cells := 0, slots := 0, locals := 12 } : Room)) (fun a U => a = #[(.ref o1), (.long vq)] ∧ Z.Warmed39 U.vm ∧ U.heap = h0) (fun _ _ _ _ _ => True) (fun _ U o U' => ∃ v L, o = .returned v ∧ Q20_nxtt Z o1 vq tk lh lp o2 o3 kq cf h0 n0 v U'.heap L ∧ FrameEnd U o U' L ({ frames := 1, cells := 0, slots := 0, locals := 12 } : Room).cells ({ frames := 1, cells := 0, slots := 0, locals := 12 } : Room).slots) := by
  refine MetFree.of_bodySF (plainFor_of_name pn_20) hisR ?_
  intro p e s m args below meth c s₁ Bd hml0 hP hK
  obtain ⟨rfl, hZ, hh⟩ := hP
  have hx := Bd.exec
  have hby := Bd.bytes
  have hml : c.maxLocals = 8 := hml0
  have hown : s.vm.findClass "com/example/epochcast/epochcast/server/SessionLeases" = some m.cls := findClass_of_methodNamed Bd.named
  have hnm := (name_of_methodNamed Bd.named Bd.method).1
  have X0 : Stand p l e ({ frames := 1, cells := 0, slots := 0, locals := 12 } : Room) s m #[(.ref o1), (.long vq)] below meth c s₁ [] 0 0 := Stand.of_body Bd
  have e0 : s₁.heap = h0 := by rw [← hh, Bd.state]; rfl
  have N0 := Fr.nil n0
  have pre0 : ∀ t, Steps p.tables e below (s₁.setTop (mkF m 0 #[.val (.ref o1), .val (.long vq), .second, .unset, .unset, .unset, .unset, .unset] [])) t → Steps p.tables e below (s₁.setTop (entryFrame m #[(.ref o1), (.long vq)] 8)) t := fun t k => castTop (by first | (simp [entryFrame, mkF, argsToLocals, Value.category]; done) | rfl) k
  obtain ⟨T1, X1, e1, st1⟩ := getF X0 hx hZ hown (host := "") (Or.inl (hw _ (List.mem_of_getElem? (i := 72) rfl))) Via.refl e0 F_tick_o1 (g := (mkF m 2 #[.val (.ref o1), .val (.long vq), .second, .unset, .unset, .unset, .unset, .unset] [(.ref o1), (.long vq)])) rfl rfl (hb hby d20_2)
  obtain ⟨T2, X2, e2, st2⟩ := getF X1 hx hZ hown (host := "") (Or.inl (hw _ (List.mem_of_getElem? (i := 128) rfl))) Via.refl e1 F_lastHeartbeat_o1 (g := (mkF m 9 #[.val (.ref o1), .val (.long vq), .second, .val (.long (vq + tk)), .second, .unset, .unset, .unset] [(.ref o1), (.long vq)])) rfl rfl (hb hby d20_9)
  obtain ⟨T3, X3, e3, st3⟩ := getF X2 hx hZ hown (host := "") (Or.inl (hw _ (List.mem_of_getElem? (i := 75) rfl))) Via.refl e2 F_lapse_o1 (g := (mkF m 14 #[.val (.ref o1), .val (.long vq), .second, .val (.long (vq + tk)), .second, .unset, .unset, .unset] [(.ref o1), (.long (vq - lh))])) rfl rfl (hb hby d20_14)
  obtain ⟨T4, X4, e4, st4⟩ := getF X3 hx hZ hown (host := "") (Or.inl (hw _ (List.mem_of_getElem? (i := 59) rfl))) Via.refl e3 F_due_o1 (g := (mkF m 24 #[.val (.ref o1), .val (.long vq), .second, .val (.long (vq + tk)), .second, .unset, .unset, .unset] [(.ref o1)])) rfl rfl (hb hby d20_24)
  obtain ⟨cq5, kq5, q5a, q5b, q5c⟩ := isOf hZ e4 E_o2
  obtain ⟨_, _, ⟨T5, L5, k5, n5⟩, -, X5, ⟨Lc5, hQ5, l5, y5, z5⟩, st5⟩ := X4.virtualBack hx (y := (⟨"java/util/PriorityQueue", "peek", "()Ljava/lang/Object;"⟩ : MethodName)) (z := (⟨"java/util/PriorityQueue", "peek", "()Ljava/lang/Object;"⟩ : MethodName)) hown (mvT hZ (hw _ (List.mem_of_getElem? (i := 184) rfl))) (mvT hZ (hw _ (List.mem_of_getElem? (i := 185) rfl))) (notFace_of_selects (args := #[]) (mvT hZ (hw _ (List.mem_of_getElem? (i := 187) rfl)))) (mvT hZ (hw _ (List.mem_of_getElem? (i := 187) rfl))) (mvT hZ (hw _ (List.mem_of_getElem? (i := 186) rfl))) (by decide) (backOf (W := 0) (rm22_o1 l Z a0 hw [] o2 o3 kq h0 n0 Z0 F_queue_o2 V_o3) hZ (hw _ (List.mem_of_getElem? (i := 188) rfl)) (hw _ (List.mem_of_getElem? (i := 32) rfl)) (by decide) (by decide)) q5a q5c (g := (mkF m 27 #[.val (.ref o1), .val (.long vq), .second, .val (.long (vq + tk)), .second, .unset, .unset, .unset] [(.ref o2)])) rfl (by rw [hml]; rfl) (Steps.refl _) (argsL := []) (rest := []) (lenOf pd___Ljava_lang_Object_ rfl) rfl (by show 2 * 0 + _ ≤ _; exact Nat.le_of_eq rfl) (hb hby d20_27) (fun _ _ => ⟨rfl, e4, (by decide : 0 + 0 ≤ _), (by decide : 0 + 0 ≤ _)⟩)
  dsimp only [Pt.U, Pt.locs, Pt.cells, Pt.slots] at X5 l5 y5 z5 st5 hQ5
  subst l5 y5 z5
  obtain ⟨rfl, N5q, e5⟩ := hQ5
  have N5 := Fr.app N0 N5q
  obtain ⟨T6, X6, e6, st6⟩ := getF X5 hx hZ hown (host := "") (Or.inl (hw _ (List.mem_of_getElem? (i := 130) rfl))) Via.refl e5 F_countingFrom_o1 (g := (mkF m 68 #[.val (.ref o1), .val (.long vq), .second, .val (.long (vq + tk)), .second, .val .null, .val (.long (vq + tk)), .second] [(.ref o1), (.long (vq + tk))])) rfl rfl (hb hby d20_68)
  obtain ⟨fs, hr, hrun, hended, hW, hsame⟩ := X6.leave (v := some (.long (vq + tk))) (fun h => by rw [Bd.returns] at h; cases h)
  refine ⟨_, _, pre0 _ ?_, hrun, hended, _, _, rfl, ?_, ⟨_, rfl⟩, hW, hsame.mono (by decide) (by decide)⟩
  · show Steps p.tables e below (s₁.setTop (mkF m 0 #[.val (.ref o1), .val (.long vq), .second, .unset, .unset, .unset, .unset, .unset] [])) _
    refine XS.lloadN X0.here hx rfl (hb hby d20_0) rfl ?_
    show Steps p.tables e below (s₁.setTop (mkF m 1 #[.val (.ref o1), .val (.long vq), .second, .unset, .unset, .unset, .unset, .unset] [(.long vq)])) _
    refine XS.aloadN X0.here hx rfl (hb hby d20_1) rfl rfl ?_
    show Steps p.tables e below (s₁.setTop (mkF m 2 #[.val (.ref o1), .val (.long vq), .second, .unset, .unset, .unset, .unset, .unset] [(.ref o1), (.long vq)])) _
    refine st1 _ ?_
    show Steps p.tables e below (T1.setTop (mkF m 5 #[.val (.ref o1), .val (.long vq), .second, .unset, .unset, .unset, .unset, .unset] [(.long tk), (.long vq)])) _
    refine XS.ladd X1.here hx rfl (hb hby d20_5) rfl ?_
    show Steps p.tables e below (T1.setTop (mkF m 6 #[.val (.ref o1), .val (.long vq), .second, .unset, .unset, .unset, .unset, .unset] [(.long (vq + tk))])) _
    refine XS.lstoreN X1.here hx rfl (hb hby d20_6) rfl (l' := #[.val (.ref o1), .val (.long vq), .second, .val (.long (vq + tk)), .second, .unset, .unset, .unset]) rfl ?_
    show Steps p.tables e below (T1.setTop (mkF m 7 #[.val (.ref o1), .val (.long vq), .second, .val (.long (vq + tk)), .second, .unset, .unset, .unset] [])) _
    refine XS.lloadN X1.here hx rfl (hb hby d20_7) rfl ?_
    show Steps p.tables e below (T1.setTop (mkF m 8 #[.val (.ref o1), .val (.long vq), .second, .val (.long (vq + tk)), .second, .unset, .unset, .unset] [(.long vq)])) _
    refine XS.aloadN X1.here hx rfl (hb hby d20_8) rfl rfl ?_
    show Steps p.tables e below (T1.setTop (mkF m 9 #[.val (.ref o1), .val (.long vq), .second, .val (.long (vq + tk)), .second, .unset, .unset, .unset] [(.ref o1), (.long vq)])) _
    refine st2 _ ?_
    show Steps p.tables e below (T2.setTop (mkF m 12 #[.val (.ref o1), .val (.long vq), .second, .val (.long (vq + tk)), .second, .unset, .unset, .unset] [(.long lh), (.long vq)])) _
    refine XS.lsub X2.here hx rfl (hb hby d20_12) rfl ?_
    show Steps p.tables e below (T2.setTop (mkF m 13 #[.val (.ref o1), .val (.long vq), .second, .val (.long (vq + tk)), .second, .unset, .unset, .unset] [(.long (vq - lh))])) _
    refine XS.aloadN X2.here hx rfl (hb hby d20_13) rfl rfl ?_
    show Steps p.tables e below (T2.setTop (mkF m 14 #[.val (.ref o1), .val (.long vq), .second, .val (.long (vq + tk)), .second, .unset, .unset, .unset] [(.ref o1), (.long (vq - lh))])) _
    refine st3 _ ?_
    show Steps p.tables e below (T3.setTop (mkF m 17 #[.val (.ref o1), .val (.long vq), .second, .val (.long (vq + tk)), .second, .unset, .unset, .unset] [(.long lp), (.long (vq - lh))])) _
    refine XS.lcmp X3.here hx rfl (hb hby d20_17) rfl ?_
    show Steps p.tables e below (T3.setTop (mkF m 18 #[.val (.ref o1), .val (.long vq), .second, .val (.long (vq + tk)), .second, .unset, .unset, .unset] [(.int (lcmpW (vq - lh) lp))])) _
    refine XS.ifYes X3.here hx rfl (pc0 := 18) (pc' := 23) rfl (hb hby d20_18) rfl ((if0 _ _).trans (flt hc18).2.2.2) (by decide) (by decide) ?_
    show Steps p.tables e below (T3.setTop (mkF m 23 #[.val (.ref o1), .val (.long vq), .second, .val (.long (vq + tk)), .second, .unset, .unset, .unset] [])) _
    refine XS.aloadN X3.here hx rfl (hb hby d20_23) rfl rfl ?_
    show Steps p.tables e below (T3.setTop (mkF m 24 #[.val (.ref o1), .val (.long vq), .second, .val (.long (vq + tk)), .second, .unset, .unset, .unset] [(.ref o1)])) _
    refine st4 _ ?_
    show Steps p.tables e below (T4.setTop (mkF m 27 #[.val (.ref o1), .val (.long vq), .second, .val (.long (vq + tk)), .second, .unset, .unset, .unset] [(.ref o2)])) _
    refine st5.trans ?_
    show Steps p.tables e below (T5.setTop (mkF m 30 #[.val (.ref o1), .val (.long vq), .second, .val (.long (vq + tk)), .second, .unset, .unset, .unset] [.null])) _
    refine X5.checkcastNull hx (g := (mkF m 30 #[.val (.ref o1), .val (.long vq), .second, .val (.long (vq + tk)), .second, .unset, .unset, .unset] [.null])) rfl rfl (hb hby d20_30) _ ?_
    show Steps p.tables e below (T5.setTop (mkF m 33 #[.val (.ref o1), .val (.long vq), .second, .val (.long (vq + tk)), .second, .unset, .unset, .unset] [.null])) _
    refine XS.astore X5.here hx rfl (hb hby d20_33) rfl rfl (l' := #[.val (.ref o1), .val (.long vq), .second, .val (.long (vq + tk)), .second, .val .null, .unset, .unset]) rfl ?_
    show Steps p.tables e below (T5.setTop (mkF m 35 #[.val (.ref o1), .val (.long vq), .second, .val (.long (vq + tk)), .second, .val .null, .unset, .unset] [])) _
    refine XS.aload X5.here hx rfl (hb hby d20_35) rfl rfl ?_
    show Steps p.tables e below (T5.setTop (mkF m 37 #[.val (.ref o1), .val (.long vq), .second, .val (.long (vq + tk)), .second, .val .null, .unset, .unset] [.null])) _
    refine XS.ifnullYes X5.here hx rfl (pc0 := 37) (pc' := 52) rfl (hb hby d20_37) rfl (by decide) (by decide) ?_
    show Steps p.tables e below (T5.setTop (mkF m 52 #[.val (.ref o1), .val (.long vq), .second, .val (.long (vq + tk)), .second, .val .null, .unset, .unset] [])) _
    refine XS.lloadN X5.here hx rfl (hb hby d20_52) rfl ?_
    show Steps p.tables e below (T5.setTop (mkF m 53 #[.val (.ref o1), .val (.long vq), .second, .val (.long (vq + tk)), .second, .val .null, .unset, .unset] [(.long (vq + tk))])) _
    refine XS.goto X5.here hx rfl (pc0 := 53) (pc' := 63) rfl (hb hby d20_53) (by decide) (by decide) ?_
    show Steps p.tables e below (T5.setTop (mkF m 63 #[.val (.ref o1), .val (.long vq), .second, .val (.long (vq + tk)), .second, .val .null, .unset, .unset] [(.long (vq + tk))])) _
    refine XS.lstore X5.here hx rfl (hb hby d20_63) rfl (l' := #[.val (.ref o1), .val (.long vq), .second, .val (.long (vq + tk)), .second, .val .null, .val (.long (vq + tk)), .second]) rfl ?_
    show Steps p.tables e below (T5.setTop (mkF m 65 #[.val (.ref o1), .val (.long vq), .second, .val (.long (vq + tk)), .second, .val .null, .val (.long (vq + tk)), .second] [])) _
    refine XS.lload X5.here hx rfl (hb hby d20_65) rfl ?_
    show Steps p.tables e below (T5.setTop (mkF m 67 #[.val (.ref o1), .val (.long vq), .second, .val (.long (vq + tk)), .second, .val .null, .val (.long (vq + tk)), .second] [(.long (vq + tk))])) _
    refine XS.aloadN X5.here hx rfl (hb hby d20_67) rfl rfl ?_
    show Steps p.tables e below (T5.setTop (mkF m 68 #[.val (.ref o1), .val (.long vq), .second, .val (.long (vq + tk)), .second, .val .null, .val (.long (vq + tk)), .second] [(.ref o1), (.long (vq + tk))])) _
    refine st6 _ ?_
    show Steps p.tables e below (T6.setTop (mkF m 71 #[.val (.ref o1), .val (.long vq), .second, .val (.long (vq + tk)), .second, .val .null, .val (.long (vq + tk)), .second] [(.long cf), (.long (vq + tk))])) _
    refine XS.lsub X6.here hx rfl (hb hby d20_71) rfl ?_
    show Steps p.tables e below (T6.setTop (mkF m 72 #[.val (.ref o1), .val (.long vq), .second, .val (.long (vq + tk)), .second, .val .null, .val (.long (vq + tk)), .second] [(.long ((vq + tk) - cf))])) _
    refine XS.lconst X6.here hx rfl (hb hby d20_72) ?_
    show Steps p.tables e below (T6.setTop (mkF m 73 #[.val (.ref o1), .val (.long vq), .second, .val (.long (vq + tk)), .second, .val .null, .val (.long (vq + tk)), .second] [(.long 0), (.long ((vq + tk) - cf))])) _
    refine XS.lcmp X6.here hx rfl (hb hby d20_73) rfl ?_
    show Steps p.tables e below (T6.setTop (mkF m 74 #[.val (.ref o1), .val (.long vq), .second, .val (.long (vq + tk)), .second, .val .null, .val (.long (vq + tk)), .second] [(.int (lcmpW ((vq + tk) - cf) (0 : Int64)))])) _
    refine XS.ifYes X6.here hx rfl (pc0 := 74) (pc' := 84) rfl (hb hby d20_74) rfl ((if0 _ _).trans (flt hc74).2.1) (by decide) (by decide) ?_
    show Steps p.tables e below (T6.setTop (mkF m 84 #[.val (.ref o1), .val (.long vq), .second, .val (.long (vq + tk)), .second, .val .null, .val (.long (vq + tk)), .second] [])) _
    refine XS.lload X6.here hx rfl (hb hby d20_84) rfl ?_
    show Steps p.tables e below (T6.setTop (mkF m 86 #[.val (.ref o1), .val (.long vq), .second, .val (.long (vq + tk)), .second, .val .null, .val (.long (vq + tk)), .second] [(.long (vq + tk))])) _
    jvm_step X6.here [X6.here.top, hx, (hb hby d20_86), X6.method', Bd.returns, narrow]
    first | (intro acts; rw [hr _ acts rfl rfl rfl]) | rw [hr _ _ rfl rfl rfl]
    exact Steps.refl _
  · show Q20_nxtt Z o1 vq tk lh lp o2 o3 kq cf h0 n0 _ T6.heap _
    rw [e6]
    exact ⟨(by rw [hret]), N5, rfl⟩
def Q20_nx (Z : State) (o1 : Addr) (vq : Int64) (tk : Int64) (lh : Int64) (lp : Int64) (cf : Int64) (o2 : Addr) (o3 : Addr) (kq : ClassId) (h0 : Heap) (n0 : Nat) (v : Option Value) (h : Heap) (L : List Loc) : Prop := v = some (.long (own_ref vq lh cf tk lp)) ∧ Fr n0 L ∧ h = h0
set_option maxRecDepth 65536 in
set_option maxHeartbeats 40000000 in
theorem rm20_nx (l : Launch) (Z : State) (a0 : Array Value) (hw : ∀ d ∈ tables_1, d.before a0 Z = true) (ws : List Jvm.Cond) (o1 : Addr) (vq : Int64) (tk : Int64) (lh : Int64) (lp : Int64) (cf : Int64) (o2 : Addr) (o3 : Addr) (kq : ClassId) (h0 : Heap) (n0 : Nat) (Z0 : n0 ≤ h0.size) (F_tick_o1 : Fld Z h0 o1 "com/example/epochcast/epochcast/server/SessionLeases" "tick" "J" (.long tk)) (F_lastHeartbeat_o1 : Fld Z h0 o1 "com/example/epochcast/epochcast/server/SessionLeases" "lastHeartbeat" "J" (.long lh)) (F_lapse_o1 : Fld Z h0 o1 "com/example/epochcast/epochcast/server/SessionLeases" "lapse" "J" (.long lp)) (F_due_o1 : Fld Z h0 o1 "com/example/epochcast/epochcast/server/SessionLeases" "due" "Ljava/util/PriorityQueue;" (.ref o2)) (F_queue_o2 : Fld Z h0 o2 "java/util/PriorityQueue" "queue" "[Ljava/lang/Object;" (.ref o3)) (V_o3 : Arv Z h0 o3 kq (.object "java/lang/Object") (11 : Int32) [.null, .null, .null, .null, .null, .null, .null, .null, .null, .null, .null] .null) (E_o2 : Exa Z h0 o2 "java/util/PriorityQueue") (F_countingFrom_o1 : Fld Z h0 o1 "com/example/epochcast/epochcast/server/SessionLeases" "countingFrom" "J" (.long cf)) :
    MetFree l (⟨"com/example/epochcast/epochcast/server/SessionLeases", "nextCheck", "(J)J"⟩ : MethodName) (head1 (Jvm.Cond.code (⟨"com/example/epochcast/epochcast/server/SessionLeases", "nextCheck", "(J)J"⟩ : MethodName) prog_190_method_12_code 8 (some .long) :: ws) ({ frames := 1, cells := 0, slots := 0, locals := 12 } : Room)) (fun a U => a = #[(.ref o1), (.long vq)] ∧ Z.Warmed39 U.vm ∧ U.heap = h0) (fun _ _ _ _ _ => True) (fun _ U o U' => ∃ v L, o = .returned v ∧ Q20_nx Z o1 vq tk lh lp cf o2 o3 kq h0 n0 v U'.heap L ∧ FrameEnd U o U' L ({ frames := 1, cells := 0, slots := 0, locals := 12 } : Room).cells ({ frames := 1, cells := 0, slots := 0, locals := 12 } : Room).slots) := by
  by_cases h1 : (0 : Int32) < lcmpW (vq - lh) lp
  · exact rm20_nxf l Z a0 hw ws o1 vq tk lh lp cf h0 n0 Z0 F_tick_o1 F_lastHeartbeat_o1 F_lapse_o1 h1 (by unfold own_ref; rw [if_pos h1])
  · by_cases h2 : lcmpW ((vq + tk) - cf) (0 : Int64) < (0 : Int32)
    · exact rm20_nxtf l Z a0 hw ws o1 vq tk lh lp o2 o3 kq cf h0 n0 Z0 F_tick_o1 F_lastHeartbeat_o1 F_lapse_o1 h1 F_due_o1 F_queue_o2 V_o3 E_o2 F_countingFrom_o1 h2 (by unfold own_ref; rw [if_neg h1, if_pos h2])
    · exact rm20_nxtt l Z a0 hw ws o1 vq tk lh lp o2 o3 kq cf h0 n0 Z0 F_tick_o1 F_lastHeartbeat_o1 F_lapse_o1 h1 F_due_o1 F_queue_o2 V_o3 E_o2 F_countingFrom_o1 h2 (by unfold own_ref; rw [if_neg h1, if_neg h2])
def Q21_rff (Z : State) (vq : Int64) (lh : Int64) (cf : Int64) (tk : Int64) (lp : Int64) (h0 : Heap) (n0 : Nat) (v : Option Value) (h : Heap) (L : List Loc) : Prop := v = some (.long (own_ref vq lh cf tk lp)) ∧ Fr n0 L ∧ h = h0
set_option maxRecDepth 65536 in
set_option maxHeartbeats 40000000 in
theorem rm21_rff (l : Launch) (Z : State) (a0 : Array Value) (hw : ∀ d ∈ tables_1, d.before a0 Z = true) (ws : List Jvm.Cond) (vq : Int64) (lh : Int64) (cf : Int64) (tk : Int64) (lp : Int64) (h0 : Heap) (n0 : Nat) (Z0 : n0 ≤ h0.size) (hc12 : (0 : Int32) < (lcmpW (vq - lh) lp)) (hret : (own_ref vq lh cf tk lp) = (vq + tk)) :
    MetFree l (⟨"com/example/epochcast/epochcast/server/SessionLeasesHeartbeatPinLaw", "ref", "(JJJJJ)J"⟩ : MethodName) (head1 (Jvm.Cond.code (⟨"com/example/epochcast/epochcast/server/SessionLeasesHeartbeatPinLaw", "ref", "(JJJJJ)J"⟩ : MethodName) method_3_code 12 (some .long) :: ws) ({ frames := 0, cells := 0, slots := 0, locals := 0 } : Room)) (fun a U => a = #[(.long vq), (.long lh), (.long cf), (.long tk), (.long lp)] ∧ Z.Warmed39 U.vm ∧ U.heap = h0) (fun _ _ _ _ _ => True) (fun _ U o U' => ∃ v L, o = .returned v ∧ Q21_rff Z vq lh cf tk lp h0 n0 v U'.heap L ∧ FrameEnd U o U' L ({ frames := 0, cells := 0, slots := 0, locals := 0 } : Room).cells ({ frames := 0, cells := 0, slots := 0, locals := 0 } : Room).slots) := by
  refine MetFree.of_bodySF (plainFor_of_name pn_21) hisR ?_
  intro p e s m args below meth c s₁ Bd hml0 hP hK
  obtain ⟨rfl, hZ, hh⟩ := hP
  have hx := Bd.exec
  have hby := Bd.bytes
  have hml : c.maxLocals = 12 := hml0
  have hown : s.vm.findClass "com/example/epochcast/epochcast/server/SessionLeasesHeartbeatPinLaw" = some m.cls := findClass_of_methodNamed Bd.named
  have hnm := (name_of_methodNamed Bd.named Bd.method).1
  have X0 : Stand p l e ({ frames := 0, cells := 0, slots := 0, locals := 0 } : Room) s m #[(.long vq), (.long lh), (.long cf), (.long tk), (.long lp)] below meth c s₁ [] 0 0 := Stand.of_body Bd
  have e0 : s₁.heap = h0 := by rw [← hh, Bd.state]; rfl
  have N0 := Fr.nil n0
  have pre0 : ∀ t, Steps p.tables e below (s₁.setTop (mkF m 0 #[.val (.long vq), .second, .val (.long lh), .second, .val (.long cf), .second, .val (.long tk), .second, .val (.long lp), .second, .unset, .unset] [])) t → Steps p.tables e below (s₁.setTop (entryFrame m #[(.long vq), (.long lh), (.long cf), (.long tk), (.long lp)] 12)) t := fun t k => castTop (by first | (simp [entryFrame, mkF, argsToLocals, Value.category]; done) | rfl) k
  obtain ⟨fs, hr, hrun, hended, hW, hsame⟩ := X0.leave (v := some (.long (vq + tk))) (fun h => by rw [Bd.returns] at h; cases h)
  refine ⟨_, _, pre0 _ ?_, hrun, hended, _, _, rfl, ?_, ⟨_, rfl⟩, hW, hsame.mono (by decide) (by decide)⟩
  · show Steps p.tables e below (s₁.setTop (mkF m 0 #[.val (.long vq), .second, .val (.long lh), .second, .val (.long cf), .second, .val (.long tk), .second, .val (.long lp), .second, .unset, .unset] [])) _
    refine XS.lloadN X0.here hx rfl (hb hby d21_0) rfl ?_
    show Steps p.tables e below (s₁.setTop (mkF m 1 #[.val (.long vq), .second, .val (.long lh), .second, .val (.long cf), .second, .val (.long tk), .second, .val (.long lp), .second, .unset, .unset] [(.long vq)])) _
    refine XS.lload X0.here hx rfl (hb hby d21_1) rfl ?_
    show Steps p.tables e below (s₁.setTop (mkF m 3 #[.val (.long vq), .second, .val (.long lh), .second, .val (.long cf), .second, .val (.long tk), .second, .val (.long lp), .second, .unset, .unset] [(.long tk), (.long vq)])) _
    refine XS.ladd X0.here hx rfl (hb hby d21_3) rfl ?_
    show Steps p.tables e below (s₁.setTop (mkF m 4 #[.val (.long vq), .second, .val (.long lh), .second, .val (.long cf), .second, .val (.long tk), .second, .val (.long lp), .second, .unset, .unset] [(.long (vq + tk))])) _
    refine XS.lstore X0.here hx rfl (hb hby d21_4) rfl (l' := #[.val (.long vq), .second, .val (.long lh), .second, .val (.long cf), .second, .val (.long tk), .second, .val (.long lp), .second, .val (.long (vq + tk)), .second]) rfl ?_
    show Steps p.tables e below (s₁.setTop (mkF m 6 #[.val (.long vq), .second, .val (.long lh), .second, .val (.long cf), .second, .val (.long tk), .second, .val (.long lp), .second, .val (.long (vq + tk)), .second] [])) _
    refine XS.lloadN X0.here hx rfl (hb hby d21_6) rfl ?_
    show Steps p.tables e below (s₁.setTop (mkF m 7 #[.val (.long vq), .second, .val (.long lh), .second, .val (.long cf), .second, .val (.long tk), .second, .val (.long lp), .second, .val (.long (vq + tk)), .second] [(.long vq)])) _
    refine XS.lloadN X0.here hx rfl (hb hby d21_7) rfl ?_
    show Steps p.tables e below (s₁.setTop (mkF m 8 #[.val (.long vq), .second, .val (.long lh), .second, .val (.long cf), .second, .val (.long tk), .second, .val (.long lp), .second, .val (.long (vq + tk)), .second] [(.long lh), (.long vq)])) _
    refine XS.lsub X0.here hx rfl (hb hby d21_8) rfl ?_
    show Steps p.tables e below (s₁.setTop (mkF m 9 #[.val (.long vq), .second, .val (.long lh), .second, .val (.long cf), .second, .val (.long tk), .second, .val (.long lp), .second, .val (.long (vq + tk)), .second] [(.long (vq - lh))])) _
    refine XS.lload X0.here hx rfl (hb hby d21_9) rfl ?_
    show Steps p.tables e below (s₁.setTop (mkF m 11 #[.val (.long vq), .second, .val (.long lh), .second, .val (.long cf), .second, .val (.long tk), .second, .val (.long lp), .second, .val (.long (vq + tk)), .second] [(.long lp), (.long (vq - lh))])) _
    refine XS.lcmp X0.here hx rfl (hb hby d21_11) rfl ?_
    show Steps p.tables e below (s₁.setTop (mkF m 12 #[.val (.long vq), .second, .val (.long lh), .second, .val (.long cf), .second, .val (.long tk), .second, .val (.long lp), .second, .val (.long (vq + tk)), .second] [(.int (lcmpW (vq - lh) lp))])) _
    refine XS.ifNo X0.here hx rfl (hb hby d21_12) rfl ((if0 _ _).trans (tlt hc12).2.2.2) ?_
    show Steps p.tables e below (s₁.setTop (mkF m 15 #[.val (.long vq), .second, .val (.long lh), .second, .val (.long cf), .second, .val (.long tk), .second, .val (.long lp), .second, .val (.long (vq + tk)), .second] [])) _
    refine XS.lload X0.here hx rfl (hb hby d21_15) rfl ?_
    show Steps p.tables e below (s₁.setTop (mkF m 17 #[.val (.long vq), .second, .val (.long lh), .second, .val (.long cf), .second, .val (.long tk), .second, .val (.long lp), .second, .val (.long (vq + tk)), .second] [(.long (vq + tk))])) _
    jvm_step X0.here [X0.here.top, hx, (hb hby d21_17), X0.method', Bd.returns, narrow]
    first | (intro acts; rw [hr _ acts rfl rfl rfl]) | rw [hr _ _ rfl rfl rfl]
    exact Steps.refl _
  · show Q21_rff Z vq lh cf tk lp h0 n0 _ s₁.heap _
    rw [e0]
    exact ⟨(by rw [hret]), N0, rfl⟩
def Q21_rftf (Z : State) (vq : Int64) (lh : Int64) (cf : Int64) (tk : Int64) (lp : Int64) (h0 : Heap) (n0 : Nat) (v : Option Value) (h : Heap) (L : List Loc) : Prop := v = some (.long (own_ref vq lh cf tk lp)) ∧ Fr n0 L ∧ h = h0
set_option maxRecDepth 65536 in
set_option maxHeartbeats 40000000 in
theorem rm21_rftf (l : Launch) (Z : State) (a0 : Array Value) (hw : ∀ d ∈ tables_1, d.before a0 Z = true) (ws : List Jvm.Cond) (vq : Int64) (lh : Int64) (cf : Int64) (tk : Int64) (lp : Int64) (h0 : Heap) (n0 : Nat) (Z0 : n0 ≤ h0.size) (hc12 : ¬ ((0 : Int32) < (lcmpW (vq - lh) lp))) (hc25 : (lcmpW ((vq + tk) - cf) (0 : Int64)) < (0 : Int32)) (hret : (own_ref vq lh cf tk lp) = cf) :
    MetFree l (⟨"com/example/epochcast/epochcast/server/SessionLeasesHeartbeatPinLaw", "ref", "(JJJJJ)J"⟩ : MethodName) (head1 (Jvm.Cond.code (⟨"com/example/epochcast/epochcast/server/SessionLeasesHeartbeatPinLaw", "ref", "(JJJJJ)J"⟩ : MethodName) method_3_code 12 (some .long) :: ws) ({ frames := 0, cells := 0, slots := 0, locals := 0 } : Room)) (fun a U => a = #[(.long vq), (.long lh), (.long cf), (.long tk), (.long lp)] ∧ Z.Warmed39 U.vm ∧ U.heap = h0) (fun _ _ _ _ _ => True) (fun _ U o U' => ∃ v L, o = .returned v ∧ Q21_rftf Z vq lh cf tk lp h0 n0 v U'.heap L ∧ FrameEnd U o U' L ({ frames := 0, cells := 0, slots := 0, locals := 0 } : Room).cells ({ frames := 0, cells := 0, slots := 0, locals := 0 } : Room).slots) := by
  refine MetFree.of_bodySF (plainFor_of_name pn_21) hisR ?_
  intro p e s m args below meth c s₁ Bd hml0 hP hK
  obtain ⟨rfl, hZ, hh⟩ := hP
  have hx := Bd.exec
  have hby := Bd.bytes
  have hml : c.maxLocals = 12 := hml0
  have hown : s.vm.findClass "com/example/epochcast/epochcast/server/SessionLeasesHeartbeatPinLaw" = some m.cls := findClass_of_methodNamed Bd.named
  have hnm := (name_of_methodNamed Bd.named Bd.method).1
  have X0 : Stand p l e ({ frames := 0, cells := 0, slots := 0, locals := 0 } : Room) s m #[(.long vq), (.long lh), (.long cf), (.long tk), (.long lp)] below meth c s₁ [] 0 0 := Stand.of_body Bd
  have e0 : s₁.heap = h0 := by rw [← hh, Bd.state]; rfl
  have N0 := Fr.nil n0
  have pre0 : ∀ t, Steps p.tables e below (s₁.setTop (mkF m 0 #[.val (.long vq), .second, .val (.long lh), .second, .val (.long cf), .second, .val (.long tk), .second, .val (.long lp), .second, .unset, .unset] [])) t → Steps p.tables e below (s₁.setTop (entryFrame m #[(.long vq), (.long lh), (.long cf), (.long tk), (.long lp)] 12)) t := fun t k => castTop (by first | (simp [entryFrame, mkF, argsToLocals, Value.category]; done) | rfl) k
  obtain ⟨fs, hr, hrun, hended, hW, hsame⟩ := X0.leave (v := some (.long cf)) (fun h => by rw [Bd.returns] at h; cases h)
  refine ⟨_, _, pre0 _ ?_, hrun, hended, _, _, rfl, ?_, ⟨_, rfl⟩, hW, hsame.mono (by decide) (by decide)⟩
  · show Steps p.tables e below (s₁.setTop (mkF m 0 #[.val (.long vq), .second, .val (.long lh), .second, .val (.long cf), .second, .val (.long tk), .second, .val (.long lp), .second, .unset, .unset] [])) _
    refine XS.lloadN X0.here hx rfl (hb hby d21_0) rfl ?_
    show Steps p.tables e below (s₁.setTop (mkF m 1 #[.val (.long vq), .second, .val (.long lh), .second, .val (.long cf), .second, .val (.long tk), .second, .val (.long lp), .second, .unset, .unset] [(.long vq)])) _
    refine XS.lload X0.here hx rfl (hb hby d21_1) rfl ?_
    show Steps p.tables e below (s₁.setTop (mkF m 3 #[.val (.long vq), .second, .val (.long lh), .second, .val (.long cf), .second, .val (.long tk), .second, .val (.long lp), .second, .unset, .unset] [(.long tk), (.long vq)])) _
    refine XS.ladd X0.here hx rfl (hb hby d21_3) rfl ?_
    show Steps p.tables e below (s₁.setTop (mkF m 4 #[.val (.long vq), .second, .val (.long lh), .second, .val (.long cf), .second, .val (.long tk), .second, .val (.long lp), .second, .unset, .unset] [(.long (vq + tk))])) _
    refine XS.lstore X0.here hx rfl (hb hby d21_4) rfl (l' := #[.val (.long vq), .second, .val (.long lh), .second, .val (.long cf), .second, .val (.long tk), .second, .val (.long lp), .second, .val (.long (vq + tk)), .second]) rfl ?_
    show Steps p.tables e below (s₁.setTop (mkF m 6 #[.val (.long vq), .second, .val (.long lh), .second, .val (.long cf), .second, .val (.long tk), .second, .val (.long lp), .second, .val (.long (vq + tk)), .second] [])) _
    refine XS.lloadN X0.here hx rfl (hb hby d21_6) rfl ?_
    show Steps p.tables e below (s₁.setTop (mkF m 7 #[.val (.long vq), .second, .val (.long lh), .second, .val (.long cf), .second, .val (.long tk), .second, .val (.long lp), .second, .val (.long (vq + tk)), .second] [(.long vq)])) _
    refine XS.lloadN X0.here hx rfl (hb hby d21_7) rfl ?_
    show Steps p.tables e below (s₁.setTop (mkF m 8 #[.val (.long vq), .second, .val (.long lh), .second, .val (.long cf), .second, .val (.long tk), .second, .val (.long lp), .second, .val (.long (vq + tk)), .second] [(.long lh), (.long vq)])) _
    refine XS.lsub X0.here hx rfl (hb hby d21_8) rfl ?_
    show Steps p.tables e below (s₁.setTop (mkF m 9 #[.val (.long vq), .second, .val (.long lh), .second, .val (.long cf), .second, .val (.long tk), .second, .val (.long lp), .second, .val (.long (vq + tk)), .second] [(.long (vq - lh))])) _
    refine XS.lload X0.here hx rfl (hb hby d21_9) rfl ?_
    show Steps p.tables e below (s₁.setTop (mkF m 11 #[.val (.long vq), .second, .val (.long lh), .second, .val (.long cf), .second, .val (.long tk), .second, .val (.long lp), .second, .val (.long (vq + tk)), .second] [(.long lp), (.long (vq - lh))])) _
    refine XS.lcmp X0.here hx rfl (hb hby d21_11) rfl ?_
    show Steps p.tables e below (s₁.setTop (mkF m 12 #[.val (.long vq), .second, .val (.long lh), .second, .val (.long cf), .second, .val (.long tk), .second, .val (.long lp), .second, .val (.long (vq + tk)), .second] [(.int (lcmpW (vq - lh) lp))])) _
    refine XS.ifYes X0.here hx rfl (pc0 := 12) (pc' := 18) rfl (hb hby d21_12) rfl ((if0 _ _).trans (flt hc12).2.2.2) (by decide) (by decide) ?_
    show Steps p.tables e below (s₁.setTop (mkF m 18 #[.val (.long vq), .second, .val (.long lh), .second, .val (.long cf), .second, .val (.long tk), .second, .val (.long lp), .second, .val (.long (vq + tk)), .second] [])) _
    refine XS.lload X0.here hx rfl (hb hby d21_18) rfl ?_
    show Steps p.tables e below (s₁.setTop (mkF m 20 #[.val (.long vq), .second, .val (.long lh), .second, .val (.long cf), .second, .val (.long tk), .second, .val (.long lp), .second, .val (.long (vq + tk)), .second] [(.long (vq + tk))])) _
    refine XS.lload X0.here hx rfl (hb hby d21_20) rfl ?_
    show Steps p.tables e below (s₁.setTop (mkF m 22 #[.val (.long vq), .second, .val (.long lh), .second, .val (.long cf), .second, .val (.long tk), .second, .val (.long lp), .second, .val (.long (vq + tk)), .second] [(.long cf), (.long (vq + tk))])) _
    refine XS.lsub X0.here hx rfl (hb hby d21_22) rfl ?_
    show Steps p.tables e below (s₁.setTop (mkF m 23 #[.val (.long vq), .second, .val (.long lh), .second, .val (.long cf), .second, .val (.long tk), .second, .val (.long lp), .second, .val (.long (vq + tk)), .second] [(.long ((vq + tk) - cf))])) _
    refine XS.lconst X0.here hx rfl (hb hby d21_23) ?_
    show Steps p.tables e below (s₁.setTop (mkF m 24 #[.val (.long vq), .second, .val (.long lh), .second, .val (.long cf), .second, .val (.long tk), .second, .val (.long lp), .second, .val (.long (vq + tk)), .second] [(.long 0), (.long ((vq + tk) - cf))])) _
    refine XS.lcmp X0.here hx rfl (hb hby d21_24) rfl ?_
    show Steps p.tables e below (s₁.setTop (mkF m 25 #[.val (.long vq), .second, .val (.long lh), .second, .val (.long cf), .second, .val (.long tk), .second, .val (.long lp), .second, .val (.long (vq + tk)), .second] [(.int (lcmpW ((vq + tk) - cf) (0 : Int64)))])) _
    refine XS.ifNo X0.here hx rfl (hb hby d21_25) rfl ((if0 _ _).trans (tlt hc25).2.1) ?_
    show Steps p.tables e below (s₁.setTop (mkF m 28 #[.val (.long vq), .second, .val (.long lh), .second, .val (.long cf), .second, .val (.long tk), .second, .val (.long lp), .second, .val (.long (vq + tk)), .second] [])) _
    refine XS.lload X0.here hx rfl (hb hby d21_28) rfl ?_
    show Steps p.tables e below (s₁.setTop (mkF m 30 #[.val (.long vq), .second, .val (.long lh), .second, .val (.long cf), .second, .val (.long tk), .second, .val (.long lp), .second, .val (.long (vq + tk)), .second] [(.long cf)])) _
    jvm_step X0.here [X0.here.top, hx, (hb hby d21_30), X0.method', Bd.returns, narrow]
    first | (intro acts; rw [hr _ acts rfl rfl rfl]) | rw [hr _ _ rfl rfl rfl]
    exact Steps.refl _
  · show Q21_rftf Z vq lh cf tk lp h0 n0 _ s₁.heap _
    rw [e0]
    exact ⟨(by rw [hret]), N0, rfl⟩
def Q21_rftt (Z : State) (vq : Int64) (lh : Int64) (cf : Int64) (tk : Int64) (lp : Int64) (h0 : Heap) (n0 : Nat) (v : Option Value) (h : Heap) (L : List Loc) : Prop := v = some (.long (own_ref vq lh cf tk lp)) ∧ Fr n0 L ∧ h = h0
set_option maxRecDepth 65536 in
set_option maxHeartbeats 40000000 in
theorem rm21_rftt (l : Launch) (Z : State) (a0 : Array Value) (hw : ∀ d ∈ tables_1, d.before a0 Z = true) (ws : List Jvm.Cond) (vq : Int64) (lh : Int64) (cf : Int64) (tk : Int64) (lp : Int64) (h0 : Heap) (n0 : Nat) (Z0 : n0 ≤ h0.size) (hc12 : ¬ ((0 : Int32) < (lcmpW (vq - lh) lp))) (hc25 : ¬ ((lcmpW ((vq + tk) - cf) (0 : Int64)) < (0 : Int32))) (hret : (own_ref vq lh cf tk lp) = (vq + tk)) :
    MetFree l (⟨"com/example/epochcast/epochcast/server/SessionLeasesHeartbeatPinLaw", "ref", "(JJJJJ)J"⟩ : MethodName) (head1 (Jvm.Cond.code (⟨"com/example/epochcast/epochcast/server/SessionLeasesHeartbeatPinLaw", "ref", "(JJJJJ)J"⟩ : MethodName) method_3_code 12 (some .long) :: ws) ({ frames := 0, cells := 0, slots := 0, locals := 0 } : Room)) (fun a U => a = #[(.long vq), (.long lh), (.long cf), (.long tk), (.long lp)] ∧ Z.Warmed39 U.vm ∧ U.heap = h0) (fun _ _ _ _ _ => True) (fun _ U o U' => ∃ v L, o = .returned v ∧ Q21_rftt Z vq lh cf tk lp h0 n0 v U'.heap L ∧ FrameEnd U o U' L ({ frames := 0, cells := 0, slots := 0, locals := 0 } : Room).cells ({ frames := 0, cells := 0, slots := 0, locals := 0 } : Room).slots) := by
  refine MetFree.of_bodySF (plainFor_of_name pn_21) hisR ?_
  intro p e s m args below meth c s₁ Bd hml0 hP hK
  obtain ⟨rfl, hZ, hh⟩ := hP
  have hx := Bd.exec
  have hby := Bd.bytes
  have hml : c.maxLocals = 12 := hml0
  have hown : s.vm.findClass "com/example/epochcast/epochcast/server/SessionLeasesHeartbeatPinLaw" = some m.cls := findClass_of_methodNamed Bd.named
  have hnm := (name_of_methodNamed Bd.named Bd.method).1
  have X0 : Stand p l e ({ frames := 0, cells := 0, slots := 0, locals := 0 } : Room) s m #[(.long vq), (.long lh), (.long cf), (.long tk), (.long lp)] below meth c s₁ [] 0 0 := Stand.of_body Bd
  have e0 : s₁.heap = h0 := by rw [← hh, Bd.state]; rfl
  have N0 := Fr.nil n0
  have pre0 : ∀ t, Steps p.tables e below (s₁.setTop (mkF m 0 #[.val (.long vq), .second, .val (.long lh), .second, .val (.long cf), .second, .val (.long tk), .second, .val (.long lp), .second, .unset, .unset] [])) t → Steps p.tables e below (s₁.setTop (entryFrame m #[(.long vq), (.long lh), (.long cf), (.long tk), (.long lp)] 12)) t := fun t k => castTop (by first | (simp [entryFrame, mkF, argsToLocals, Value.category]; done) | rfl) k
  obtain ⟨fs, hr, hrun, hended, hW, hsame⟩ := X0.leave (v := some (.long (vq + tk))) (fun h => by rw [Bd.returns] at h; cases h)
  refine ⟨_, _, pre0 _ ?_, hrun, hended, _, _, rfl, ?_, ⟨_, rfl⟩, hW, hsame.mono (by decide) (by decide)⟩
  · show Steps p.tables e below (s₁.setTop (mkF m 0 #[.val (.long vq), .second, .val (.long lh), .second, .val (.long cf), .second, .val (.long tk), .second, .val (.long lp), .second, .unset, .unset] [])) _
    refine XS.lloadN X0.here hx rfl (hb hby d21_0) rfl ?_
    show Steps p.tables e below (s₁.setTop (mkF m 1 #[.val (.long vq), .second, .val (.long lh), .second, .val (.long cf), .second, .val (.long tk), .second, .val (.long lp), .second, .unset, .unset] [(.long vq)])) _
    refine XS.lload X0.here hx rfl (hb hby d21_1) rfl ?_
    show Steps p.tables e below (s₁.setTop (mkF m 3 #[.val (.long vq), .second, .val (.long lh), .second, .val (.long cf), .second, .val (.long tk), .second, .val (.long lp), .second, .unset, .unset] [(.long tk), (.long vq)])) _
    refine XS.ladd X0.here hx rfl (hb hby d21_3) rfl ?_
    show Steps p.tables e below (s₁.setTop (mkF m 4 #[.val (.long vq), .second, .val (.long lh), .second, .val (.long cf), .second, .val (.long tk), .second, .val (.long lp), .second, .unset, .unset] [(.long (vq + tk))])) _
    refine XS.lstore X0.here hx rfl (hb hby d21_4) rfl (l' := #[.val (.long vq), .second, .val (.long lh), .second, .val (.long cf), .second, .val (.long tk), .second, .val (.long lp), .second, .val (.long (vq + tk)), .second]) rfl ?_
    show Steps p.tables e below (s₁.setTop (mkF m 6 #[.val (.long vq), .second, .val (.long lh), .second, .val (.long cf), .second, .val (.long tk), .second, .val (.long lp), .second, .val (.long (vq + tk)), .second] [])) _
    refine XS.lloadN X0.here hx rfl (hb hby d21_6) rfl ?_
    show Steps p.tables e below (s₁.setTop (mkF m 7 #[.val (.long vq), .second, .val (.long lh), .second, .val (.long cf), .second, .val (.long tk), .second, .val (.long lp), .second, .val (.long (vq + tk)), .second] [(.long vq)])) _
    refine XS.lloadN X0.here hx rfl (hb hby d21_7) rfl ?_
    show Steps p.tables e below (s₁.setTop (mkF m 8 #[.val (.long vq), .second, .val (.long lh), .second, .val (.long cf), .second, .val (.long tk), .second, .val (.long lp), .second, .val (.long (vq + tk)), .second] [(.long lh), (.long vq)])) _
    refine XS.lsub X0.here hx rfl (hb hby d21_8) rfl ?_
    show Steps p.tables e below (s₁.setTop (mkF m 9 #[.val (.long vq), .second, .val (.long lh), .second, .val (.long cf), .second, .val (.long tk), .second, .val (.long lp), .second, .val (.long (vq + tk)), .second] [(.long (vq - lh))])) _
    refine XS.lload X0.here hx rfl (hb hby d21_9) rfl ?_
    show Steps p.tables e below (s₁.setTop (mkF m 11 #[.val (.long vq), .second, .val (.long lh), .second, .val (.long cf), .second, .val (.long tk), .second, .val (.long lp), .second, .val (.long (vq + tk)), .second] [(.long lp), (.long (vq - lh))])) _
    refine XS.lcmp X0.here hx rfl (hb hby d21_11) rfl ?_
    show Steps p.tables e below (s₁.setTop (mkF m 12 #[.val (.long vq), .second, .val (.long lh), .second, .val (.long cf), .second, .val (.long tk), .second, .val (.long lp), .second, .val (.long (vq + tk)), .second] [(.int (lcmpW (vq - lh) lp))])) _
    refine XS.ifYes X0.here hx rfl (pc0 := 12) (pc' := 18) rfl (hb hby d21_12) rfl ((if0 _ _).trans (flt hc12).2.2.2) (by decide) (by decide) ?_
    show Steps p.tables e below (s₁.setTop (mkF m 18 #[.val (.long vq), .second, .val (.long lh), .second, .val (.long cf), .second, .val (.long tk), .second, .val (.long lp), .second, .val (.long (vq + tk)), .second] [])) _
    refine XS.lload X0.here hx rfl (hb hby d21_18) rfl ?_
    show Steps p.tables e below (s₁.setTop (mkF m 20 #[.val (.long vq), .second, .val (.long lh), .second, .val (.long cf), .second, .val (.long tk), .second, .val (.long lp), .second, .val (.long (vq + tk)), .second] [(.long (vq + tk))])) _
    refine XS.lload X0.here hx rfl (hb hby d21_20) rfl ?_
    show Steps p.tables e below (s₁.setTop (mkF m 22 #[.val (.long vq), .second, .val (.long lh), .second, .val (.long cf), .second, .val (.long tk), .second, .val (.long lp), .second, .val (.long (vq + tk)), .second] [(.long cf), (.long (vq + tk))])) _
    refine XS.lsub X0.here hx rfl (hb hby d21_22) rfl ?_
    show Steps p.tables e below (s₁.setTop (mkF m 23 #[.val (.long vq), .second, .val (.long lh), .second, .val (.long cf), .second, .val (.long tk), .second, .val (.long lp), .second, .val (.long (vq + tk)), .second] [(.long ((vq + tk) - cf))])) _
    refine XS.lconst X0.here hx rfl (hb hby d21_23) ?_
    show Steps p.tables e below (s₁.setTop (mkF m 24 #[.val (.long vq), .second, .val (.long lh), .second, .val (.long cf), .second, .val (.long tk), .second, .val (.long lp), .second, .val (.long (vq + tk)), .second] [(.long 0), (.long ((vq + tk) - cf))])) _
    refine XS.lcmp X0.here hx rfl (hb hby d21_24) rfl ?_
    show Steps p.tables e below (s₁.setTop (mkF m 25 #[.val (.long vq), .second, .val (.long lh), .second, .val (.long cf), .second, .val (.long tk), .second, .val (.long lp), .second, .val (.long (vq + tk)), .second] [(.int (lcmpW ((vq + tk) - cf) (0 : Int64)))])) _
    refine XS.ifYes X0.here hx rfl (pc0 := 25) (pc' := 31) rfl (hb hby d21_25) rfl ((if0 _ _).trans (flt hc25).2.1) (by decide) (by decide) ?_
    show Steps p.tables e below (s₁.setTop (mkF m 31 #[.val (.long vq), .second, .val (.long lh), .second, .val (.long cf), .second, .val (.long tk), .second, .val (.long lp), .second, .val (.long (vq + tk)), .second] [])) _
    refine XS.lload X0.here hx rfl (hb hby d21_31) rfl ?_
    show Steps p.tables e below (s₁.setTop (mkF m 33 #[.val (.long vq), .second, .val (.long lh), .second, .val (.long cf), .second, .val (.long tk), .second, .val (.long lp), .second, .val (.long (vq + tk)), .second] [(.long (vq + tk))])) _
    jvm_step X0.here [X0.here.top, hx, (hb hby d21_33), X0.method', Bd.returns, narrow]
    first | (intro acts; rw [hr _ acts rfl rfl rfl]) | rw [hr _ _ rfl rfl rfl]
    exact Steps.refl _
  · show Q21_rftt Z vq lh cf tk lp h0 n0 _ s₁.heap _
    rw [e0]
    exact ⟨(by rw [hret]), N0, rfl⟩
def Q21_rf (Z : State) (vq : Int64) (lh : Int64) (cf : Int64) (tk : Int64) (lp : Int64) (h0 : Heap) (n0 : Nat) (v : Option Value) (h : Heap) (L : List Loc) : Prop := v = some (.long (own_ref vq lh cf tk lp)) ∧ Fr n0 L ∧ h = h0
set_option maxRecDepth 65536 in
set_option maxHeartbeats 40000000 in
theorem rm21_rf (l : Launch) (Z : State) (a0 : Array Value) (hw : ∀ d ∈ tables_1, d.before a0 Z = true) (ws : List Jvm.Cond) (vq : Int64) (lh : Int64) (cf : Int64) (tk : Int64) (lp : Int64) (h0 : Heap) (n0 : Nat) (Z0 : n0 ≤ h0.size) :
    MetFree l (⟨"com/example/epochcast/epochcast/server/SessionLeasesHeartbeatPinLaw", "ref", "(JJJJJ)J"⟩ : MethodName) (head1 (Jvm.Cond.code (⟨"com/example/epochcast/epochcast/server/SessionLeasesHeartbeatPinLaw", "ref", "(JJJJJ)J"⟩ : MethodName) method_3_code 12 (some .long) :: ws) ({ frames := 0, cells := 0, slots := 0, locals := 0 } : Room)) (fun a U => a = #[(.long vq), (.long lh), (.long cf), (.long tk), (.long lp)] ∧ Z.Warmed39 U.vm ∧ U.heap = h0) (fun _ _ _ _ _ => True) (fun _ U o U' => ∃ v L, o = .returned v ∧ Q21_rf Z vq lh cf tk lp h0 n0 v U'.heap L ∧ FrameEnd U o U' L ({ frames := 0, cells := 0, slots := 0, locals := 0 } : Room).cells ({ frames := 0, cells := 0, slots := 0, locals := 0 } : Room).slots) := by
  by_cases h1 : (0 : Int32) < lcmpW (vq - lh) lp
  · exact rm21_rff l Z a0 hw ws vq lh cf tk lp h0 n0 Z0 h1 (by unfold own_ref; rw [if_pos h1])
  · by_cases h2 : lcmpW ((vq + tk) - cf) (0 : Int64) < (0 : Int32)
    · exact rm21_rftf l Z a0 hw ws vq lh cf tk lp h0 n0 Z0 h1 h2 (by unfold own_ref; rw [if_neg h1, if_pos h2])
    · exact rm21_rftt l Z a0 hw ws vq lh cf tk lp h0 n0 Z0 h1 h2 (by unfold own_ref; rw [if_neg h1, if_neg h2])
def Q4_o1 (Z : State) (o1 : Addr) (h0 : Heap) (n0 : Nat) (v : Option Value) (h : Heap) (L : List Loc) : Prop := v = none ∧ Fr n0 L ∧ h = h0
set_option maxRecDepth 65536 in
set_option maxHeartbeats 40000000 in
theorem rm4_o1 (l : Launch) (Z : State) (a0 : Array Value) (hw : ∀ d ∈ tables_1, d.before a0 Z = true) (ws : List Jvm.Cond) (o1 : Addr) (h0 : Heap) (n0 : Nat) (Z0 : n0 ≤ h0.size) :
    MetFree l (⟨"java/util/AbstractMap", "<init>", "()V"⟩ : MethodName) (head1 (Jvm.Cond.code (⟨"java/util/AbstractMap", "<init>", "()V"⟩ : MethodName) jdk_71_method_1_code 1 none :: ws) ({ frames := 1, cells := 0, slots := 0, locals := 12 } : Room)) (fun a U => a = #[(.ref o1)] ∧ Z.Warmed39 U.vm ∧ U.heap = h0) (fun _ _ _ _ _ => True) (fun _ U o U' => ∃ v L, o = .returned v ∧ Q4_o1 Z o1 h0 n0 v U'.heap L ∧ FrameEnd U o U' L ({ frames := 1, cells := 0, slots := 0, locals := 12 } : Room).cells ({ frames := 1, cells := 0, slots := 0, locals := 12 } : Room).slots) := by
  refine MetFree.of_bodySF (plainFor_of_name pn_4) hisR ?_
  intro p e s m args below meth c s₁ Bd hml0 hP hK
  obtain ⟨rfl, hZ, hh⟩ := hP
  have hx := Bd.exec
  have hby := Bd.bytes
  have hml : c.maxLocals = 1 := hml0
  have hown : s.vm.findClass "java/util/AbstractMap" = some m.cls := findClass_of_methodNamed Bd.named
  have hnm := (name_of_methodNamed Bd.named Bd.method).1
  have X0 : Stand p l e ({ frames := 1, cells := 0, slots := 0, locals := 12 } : Room) s m #[(.ref o1)] below meth c s₁ [] 0 0 := Stand.of_body Bd
  have e0 : s₁.heap = h0 := by rw [← hh, Bd.state]; rfl
  have N0 := Fr.nil n0
  have pre0 : ∀ t, Steps p.tables e below (s₁.setTop (mkF m 0 #[.val (.ref o1)] [])) t → Steps p.tables e below (s₁.setTop (entryFrame m #[(.ref o1)] 1)) t := fun t k => castTop (by first | (simp [entryFrame, mkF, argsToLocals, Value.category]; done) | rfl) k
  obtain ⟨T1, X1, e1, st1⟩ := initO X0 hx hZ hown (hw _ (List.mem_of_getElem? (i := 24) rfl)) (hw _ (List.mem_of_getElem? (i := 10) rfl)) (hw _ (List.mem_of_getElem? (i := 11) rfl)) e0 (g := (mkF m 1 #[.val (.ref o1)] [(.ref o1)])) rfl (by rw [hml]; rfl) rfl (hb hby d4_1) (by decide) (W := 0) (by show 2 * 0 + _ ≤ _; exact Nat.le_of_eq rfl) (by decide)
  obtain ⟨fs, hr, hrun, hended, hW, hsame⟩ := X1.leave (v := none) (fun _ => rfl)
  refine ⟨_, _, pre0 _ ?_, hrun, hended, _, _, rfl, ?_, ⟨_, rfl⟩, hW, hsame.mono (by decide) (by decide)⟩
  · show Steps p.tables e below (s₁.setTop (mkF m 0 #[.val (.ref o1)] [])) _
    refine XS.aloadN X0.here hx rfl (hb hby d4_0) rfl rfl ?_
    show Steps p.tables e below (s₁.setTop (mkF m 1 #[.val (.ref o1)] [(.ref o1)])) _
    refine st1 _ ?_
    show Steps p.tables e below (T1.setTop (mkF m 4 #[.val (.ref o1)] [])) _
    exact X1.returnOut hx Bd.returns (hb hby d4_4) hr
  · show Q4_o1 Z o1 h0 n0 _ T1.heap _
    rw [e1]
    exact ⟨rfl, N0, rfl⟩
def Q3_o1 (Z : State) (o1 : Addr) (h0 : Heap) (n0 : Nat) (v : Option Value) (h : Heap) (L : List Loc) : Prop := v = none ∧ Fr n0 L ∧ Keep h0 h [o1] ∧ Exa Z h o1 "java/util/HashMap" ∧ Fld Z h o1 "java/util/HashMap" "loadFactor" "F" (.float (1061158912 : UInt32)) ∧ Fld Z h o1 "java/util/HashMap" "modCount" "I" (.int 0) ∧ Fld Z h o1 "java/util/HashMap" "table" "[Ljava/util/HashMap$Node;" .null
set_option maxRecDepth 65536 in
set_option maxHeartbeats 40000000 in
theorem rm3_o1 (l : Launch) (Z : State) (a0 : Array Value) (hw : ∀ d ∈ tables_1, d.before a0 Z = true) (ws : List Jvm.Cond) (o1 : Addr) (h0 : Heap) (n0 : Nat) (Z0 : n0 ≤ h0.size) (E_o1 : Exa Z h0 o1 "java/util/HashMap") (F_loadFactor_o1 : Fld Z h0 o1 "java/util/HashMap" "loadFactor" "F" (defaultValue .float)) (g_o1 : n0 ≤ o1) (F_modCount_o1 : Fld Z h0 o1 "java/util/HashMap" "modCount" "I" (.int 0)) (F_table_o1 : Fld Z h0 o1 "java/util/HashMap" "table" "[Ljava/util/HashMap$Node;" .null) :
    MetFree l (⟨"java/util/HashMap", "<init>", "()V"⟩ : MethodName) (head1 (Jvm.Cond.code (⟨"java/util/HashMap", "<init>", "()V"⟩ : MethodName) jdk_69_method_7_code 1 none :: ws) ({ frames := 2, cells := 0, slots := 0, locals := 24 } : Room)) (fun a U => a = #[(.ref o1)] ∧ Z.Warmed39 U.vm ∧ U.heap = h0) (fun _ _ _ _ _ => True) (fun _ U o U' => ∃ v L, o = .returned v ∧ Q3_o1 Z o1 h0 n0 v U'.heap L ∧ FrameEnd U o U' L ({ frames := 2, cells := 0, slots := 0, locals := 24 } : Room).cells ({ frames := 2, cells := 0, slots := 0, locals := 24 } : Room).slots) := by
  refine MetFree.of_bodySF (plainFor_of_name pn_3) hisR ?_
  intro p e s m args below meth c s₁ Bd hml0 hP hK
  obtain ⟨rfl, hZ, hh⟩ := hP
  have hx := Bd.exec
  have hby := Bd.bytes
  have hml : c.maxLocals = 1 := hml0
  have hown : s.vm.findClass "java/util/HashMap" = some m.cls := findClass_of_methodNamed Bd.named
  have hnm := (name_of_methodNamed Bd.named Bd.method).1
  have X0 : Stand p l e ({ frames := 2, cells := 0, slots := 0, locals := 24 } : Room) s m #[(.ref o1)] below meth c s₁ [] 0 0 := Stand.of_body Bd
  have e0 : s₁.heap = h0 := by rw [← hh, Bd.state]; rfl
  have N0 := Fr.nil n0
  have pre0 : ∀ t, Steps p.tables e below (s₁.setTop (mkF m 0 #[.val (.ref o1)] [])) t → Steps p.tables e below (s₁.setTop (entryFrame m #[(.ref o1)] 1)) t := fun t k => castTop (by first | (simp [entryFrame, mkF, argsToLocals, Value.category]; done) | rfl) k
  obtain ⟨_, _, ⟨T1, L1, k1, n1⟩, -, X1, ⟨Lc1, hQ1, l1, y1, z1⟩, st1⟩ := X0.specialBack hx (y := (⟨"java/util/AbstractMap", "<init>", "()V"⟩ : MethodName)) rfl hown (mvT hZ (hw _ (List.mem_of_getElem? (i := 18) rfl))) (mvT hZ (hw _ (List.mem_of_getElem? (i := 19) rfl))) (mvT hZ (hw _ (List.mem_of_getElem? (i := 23) rfl))) (by decide) (backOf (W := 0) (rm4_o1 l Z a0 hw [] o1 h0 n0 Z0) hZ (hw _ (List.mem_of_getElem? (i := 23) rfl)) (hw _ (List.mem_of_getElem? (i := 22) rfl)) (by decide) (by decide)) (g := (mkF m 1 #[.val (.ref o1)] [(.ref o1)])) rfl (by rw [hml]; rfl) (Steps.refl _) (a := o1) (argsL := []) (rest := []) (lenOf pd___V rfl) rfl (by show 2 * 0 + _ ≤ _; exact Nat.le_of_eq rfl) (hb hby d3_1) (fun _ _ => ⟨rfl, e0, (by decide : 0 + 0 ≤ _), (by decide : 0 + 0 ≤ _)⟩)
  dsimp only [Pt.U, Pt.locs, Pt.cells, Pt.slots] at X1 l1 y1 z1 st1 hQ1
  subst l1 y1 z1
  obtain ⟨rfl, N1q, e1⟩ := hQ1
  have N1 := Fr.app N0 N1q
  obtain ⟨T2, h2, X2, e2, W2, st2⟩ := putF X1 hx hZ hown (host := "") (Or.inl (hw _ (List.mem_of_getElem? (i := 26) rfl))) Via.refl e1 F_loadFactor_o1 E_o1 (Or.inr ⟨(hw _ (List.mem_of_getElem? (i := 27) rfl)), rfl, hnm⟩) (hw _ (List.mem_of_getElem? (i := 13) rfl)) (ty := .float) (by decide) rfl rfl (g := (mkF m 7 #[.val (.ref o1)] [(.float (1061158912 : UInt32)), (.ref o1)])) rfl rfl (hb hby d3_7)
  have Fw2 := F_loadFactor_o1.same W2
  have N2 := Fr.snoc X2 N1 g_o1
  have K2 : Keep h0 h2 [o1] := (Keep.refl h0 [o1]).wr W2 (Or.inl (List.mem_of_getElem? (i := 0) rfl))
  obtain ⟨fs, hr, hrun, hended, hW, hsame⟩ := X2.leave (v := none) (fun _ => rfl)
  refine ⟨_, _, pre0 _ ?_, hrun, hended, _, _, rfl, ?_, ⟨_, rfl⟩, hW, hsame.mono (by decide) (by decide)⟩
  · show Steps p.tables e below (s₁.setTop (mkF m 0 #[.val (.ref o1)] [])) _
    refine XS.aloadN X0.here hx rfl (hb hby d3_0) rfl rfl ?_
    show Steps p.tables e below (s₁.setTop (mkF m 1 #[.val (.ref o1)] [(.ref o1)])) _
    refine st1.trans ?_
    show Steps p.tables e below (T1.setTop (mkF m 4 #[.val (.ref o1)] [])) _
    refine XS.aloadN X1.here hx rfl (hb hby d3_4) rfl rfl ?_
    show Steps p.tables e below (T1.setTop (mkF m 5 #[.val (.ref o1)] [(.ref o1)])) _
    refine X1.ldcFloatC hx hown (mvT hZ (hw _ (List.mem_of_getElem? (i := 25) rfl))) (g := (mkF m 5 #[.val (.ref o1)] [(.ref o1)])) rfl (hb hby d3_5) _ ?_
    show Steps p.tables e below (T1.setTop (mkF m 7 #[.val (.ref o1)] [(.float (1061158912 : UInt32)), (.ref o1)])) _
    refine st2 _ ?_
    show Steps p.tables e below (T2.setTop (mkF m 10 #[.val (.ref o1)] [])) _
    exact X2.returnOut hx Bd.returns (hb hby d3_10) hr
  · show Q3_o1 Z o1 h0 n0 _ T2.heap _
    rw [e2]
    exact ⟨rfl, N2, K2, (E_o1.wr W2), Fw2, (F_modCount_o1.other W2 (Or.inr (slot_ne (Or.inl (hw _ (List.mem_of_getElem? (i := 116) rfl))) (Or.inr (hw _ (List.mem_of_getElem? (i := 27) rfl))) (by decide) (t := .int) (t' := .float) (by decide) (by decide)))), (F_table_o1.other W2 (Or.inr (slot_ne (Or.inl (hw _ (List.mem_of_getElem? (i := 118) rfl))) (Or.inr (hw _ (List.mem_of_getElem? (i := 27) rfl))) (by decide) (t := (.array (.object "java/util/HashMap$Node"))) (t' := .float) (by decide) (by decide))))⟩
def Q8_o1 (Z : State) (o1 : Addr) (h0 : Heap) (n0 : Nat) (v : Option Value) (h : Heap) (L : List Loc) : Prop := v = none ∧ Fr n0 L ∧ h = h0
set_option maxRecDepth 65536 in
set_option maxHeartbeats 40000000 in
theorem rm8_o1 (l : Launch) (Z : State) (a0 : Array Value) (hw : ∀ d ∈ tables_1, d.before a0 Z = true) (ws : List Jvm.Cond) (o1 : Addr) (h0 : Heap) (n0 : Nat) (Z0 : n0 ≤ h0.size) :
    MetFree l (⟨"java/util/AbstractCollection", "<init>", "()V"⟩ : MethodName) (head1 (Jvm.Cond.code (⟨"java/util/AbstractCollection", "<init>", "()V"⟩ : MethodName) jdk_22_method_1_code 1 none :: ws) ({ frames := 1, cells := 0, slots := 0, locals := 12 } : Room)) (fun a U => a = #[(.ref o1)] ∧ Z.Warmed39 U.vm ∧ U.heap = h0) (fun _ _ _ _ _ => True) (fun _ U o U' => ∃ v L, o = .returned v ∧ Q8_o1 Z o1 h0 n0 v U'.heap L ∧ FrameEnd U o U' L ({ frames := 1, cells := 0, slots := 0, locals := 12 } : Room).cells ({ frames := 1, cells := 0, slots := 0, locals := 12 } : Room).slots) := by
  refine MetFree.of_bodySF (plainFor_of_name pn_8) hisR ?_
  intro p e s m args below meth c s₁ Bd hml0 hP hK
  obtain ⟨rfl, hZ, hh⟩ := hP
  have hx := Bd.exec
  have hby := Bd.bytes
  have hml : c.maxLocals = 1 := hml0
  have hown : s.vm.findClass "java/util/AbstractCollection" = some m.cls := findClass_of_methodNamed Bd.named
  have hnm := (name_of_methodNamed Bd.named Bd.method).1
  have X0 : Stand p l e ({ frames := 1, cells := 0, slots := 0, locals := 12 } : Room) s m #[(.ref o1)] below meth c s₁ [] 0 0 := Stand.of_body Bd
  have e0 : s₁.heap = h0 := by rw [← hh, Bd.state]; rfl
  have N0 := Fr.nil n0
  have pre0 : ∀ t, Steps p.tables e below (s₁.setTop (mkF m 0 #[.val (.ref o1)] [])) t → Steps p.tables e below (s₁.setTop (entryFrame m #[(.ref o1)] 1)) t := fun t k => castTop (by first | (simp [entryFrame, mkF, argsToLocals, Value.category]; done) | rfl) k
  obtain ⟨T1, X1, e1, st1⟩ := initO X0 hx hZ hown (hw _ (List.mem_of_getElem? (i := 52) rfl)) (hw _ (List.mem_of_getElem? (i := 10) rfl)) (hw _ (List.mem_of_getElem? (i := 11) rfl)) e0 (g := (mkF m 1 #[.val (.ref o1)] [(.ref o1)])) rfl (by rw [hml]; rfl) rfl (hb hby d8_1) (by decide) (W := 0) (by show 2 * 0 + _ ≤ _; exact Nat.le_of_eq rfl) (by decide)
  obtain ⟨fs, hr, hrun, hended, hW, hsame⟩ := X1.leave (v := none) (fun _ => rfl)
  refine ⟨_, _, pre0 _ ?_, hrun, hended, _, _, rfl, ?_, ⟨_, rfl⟩, hW, hsame.mono (by decide) (by decide)⟩
  · show Steps p.tables e below (s₁.setTop (mkF m 0 #[.val (.ref o1)] [])) _
    refine XS.aloadN X0.here hx rfl (hb hby d8_0) rfl rfl ?_
    show Steps p.tables e below (s₁.setTop (mkF m 1 #[.val (.ref o1)] [(.ref o1)])) _
    refine st1 _ ?_
    show Steps p.tables e below (T1.setTop (mkF m 4 #[.val (.ref o1)] [])) _
    exact X1.returnOut hx Bd.returns (hb hby d8_4) hr
  · show Q8_o1 Z o1 h0 n0 _ T1.heap _
    rw [e1]
    exact ⟨rfl, N0, rfl⟩
def Q7_o1 (Z : State) (o1 : Addr) (h0 : Heap) (n0 : Nat) (v : Option Value) (h : Heap) (L : List Loc) : Prop := v = none ∧ Fr n0 L ∧ h = h0
set_option maxRecDepth 65536 in
set_option maxHeartbeats 40000000 in
theorem rm7_o1 (l : Launch) (Z : State) (a0 : Array Value) (hw : ∀ d ∈ tables_1, d.before a0 Z = true) (ws : List Jvm.Cond) (o1 : Addr) (h0 : Heap) (n0 : Nat) (Z0 : n0 ≤ h0.size) :
    MetFree l (⟨"java/util/AbstractQueue", "<init>", "()V"⟩ : MethodName) (head1 (Jvm.Cond.code (⟨"java/util/AbstractQueue", "<init>", "()V"⟩ : MethodName) jdk_2435_method_1_code 1 none :: ws) ({ frames := 2, cells := 0, slots := 0, locals := 24 } : Room)) (fun a U => a = #[(.ref o1)] ∧ Z.Warmed39 U.vm ∧ U.heap = h0) (fun _ _ _ _ _ => True) (fun _ U o U' => ∃ v L, o = .returned v ∧ Q7_o1 Z o1 h0 n0 v U'.heap L ∧ FrameEnd U o U' L ({ frames := 2, cells := 0, slots := 0, locals := 24 } : Room).cells ({ frames := 2, cells := 0, slots := 0, locals := 24 } : Room).slots) := by
  refine MetFree.of_bodySF (plainFor_of_name pn_7) hisR ?_
  intro p e s m args below meth c s₁ Bd hml0 hP hK
  obtain ⟨rfl, hZ, hh⟩ := hP
  have hx := Bd.exec
  have hby := Bd.bytes
  have hml : c.maxLocals = 1 := hml0
  have hown : s.vm.findClass "java/util/AbstractQueue" = some m.cls := findClass_of_methodNamed Bd.named
  have hnm := (name_of_methodNamed Bd.named Bd.method).1
  have X0 : Stand p l e ({ frames := 2, cells := 0, slots := 0, locals := 24 } : Room) s m #[(.ref o1)] below meth c s₁ [] 0 0 := Stand.of_body Bd
  have e0 : s₁.heap = h0 := by rw [← hh, Bd.state]; rfl
  have N0 := Fr.nil n0
  have pre0 : ∀ t, Steps p.tables e below (s₁.setTop (mkF m 0 #[.val (.ref o1)] [])) t → Steps p.tables e below (s₁.setTop (entryFrame m #[(.ref o1)] 1)) t := fun t k => castTop (by first | (simp [entryFrame, mkF, argsToLocals, Value.category]; done) | rfl) k
  obtain ⟨_, _, ⟨T1, L1, k1, n1⟩, -, X1, ⟨Lc1, hQ1, l1, y1, z1⟩, st1⟩ := X0.specialBack hx (y := (⟨"java/util/AbstractCollection", "<init>", "()V"⟩ : MethodName)) rfl hown (mvT hZ (hw _ (List.mem_of_getElem? (i := 46) rfl))) (mvT hZ (hw _ (List.mem_of_getElem? (i := 47) rfl))) (mvT hZ (hw _ (List.mem_of_getElem? (i := 51) rfl))) (by decide) (backOf (W := 0) (rm8_o1 l Z a0 hw [] o1 h0 n0 Z0) hZ (hw _ (List.mem_of_getElem? (i := 51) rfl)) (hw _ (List.mem_of_getElem? (i := 50) rfl)) (by decide) (by decide)) (g := (mkF m 1 #[.val (.ref o1)] [(.ref o1)])) rfl (by rw [hml]; rfl) (Steps.refl _) (a := o1) (argsL := []) (rest := []) (lenOf pd___V rfl) rfl (by show 2 * 0 + _ ≤ _; exact Nat.le_of_eq rfl) (hb hby d7_1) (fun _ _ => ⟨rfl, e0, (by decide : 0 + 0 ≤ _), (by decide : 0 + 0 ≤ _)⟩)
  dsimp only [Pt.U, Pt.locs, Pt.cells, Pt.slots] at X1 l1 y1 z1 st1 hQ1
  subst l1 y1 z1
  obtain ⟨rfl, N1q, e1⟩ := hQ1
  have N1 := Fr.app N0 N1q
  obtain ⟨fs, hr, hrun, hended, hW, hsame⟩ := X1.leave (v := none) (fun _ => rfl)
  refine ⟨_, _, pre0 _ ?_, hrun, hended, _, _, rfl, ?_, ⟨_, rfl⟩, hW, hsame.mono (by decide) (by decide)⟩
  · show Steps p.tables e below (s₁.setTop (mkF m 0 #[.val (.ref o1)] [])) _
    refine XS.aloadN X0.here hx rfl (hb hby d7_0) rfl rfl ?_
    show Steps p.tables e below (s₁.setTop (mkF m 1 #[.val (.ref o1)] [(.ref o1)])) _
    refine st1.trans ?_
    show Steps p.tables e below (T1.setTop (mkF m 4 #[.val (.ref o1)] [])) _
    exact X1.returnOut hx Bd.returns (hb hby d7_4) hr
  · show Q7_o1 Z o1 h0 n0 _ T1.heap _
    rw [e1]
    exact ⟨rfl, N1, rfl⟩
def Q6_o1_11_null (Z : State) (o1 : Addr) (h0 : Heap) (n0 : Nat) (v : Option Value) (h : Heap) (L : List Loc) : Prop := ∃ (c1 : Addr), ∃ (kd2 : ClassId), v = none ∧ Fr n0 L ∧ Keep h0 h [o1] ∧ h0.size ≤ c1 ∧ Exa Z h o1 "java/util/PriorityQueue" ∧ Fld Z h o1 "java/util/PriorityQueue" "queue" "[Ljava/lang/Object;" (.ref c1) ∧ Fld Z h o1 "java/util/PriorityQueue" "comparator" "Ljava/util/Comparator;" .null ∧ Fld Z h o1 "java/util/PriorityQueue" "modCount" "I" (.int 0) ∧ Fld Z h o1 "java/util/PriorityQueue" "size" "I" (.int 0) ∧ Arv Z h c1 kd2 (.object "java/lang/Object") (11 : Int32) [.null, .null, .null, .null, .null, .null, .null, .null, .null, .null, .null] .null ∧ Ovr Z kd2 "java/lang/Object"
set_option maxRecDepth 65536 in
set_option maxHeartbeats 40000000 in
theorem rm6_o1_11_null (l : Launch) (Z : State) (a0 : Array Value) (hw : ∀ d ∈ tables_1, d.before a0 Z = true) (ws : List Jvm.Cond) (o1 : Addr) (h0 : Heap) (n0 : Nat) (Z0 : n0 ≤ h0.size) (E_o1 : Exa Z h0 o1 "java/util/PriorityQueue") (F_queue_o1 : Fld Z h0 o1 "java/util/PriorityQueue" "queue" "[Ljava/lang/Object;" .null) (g_o1 : n0 ≤ o1) (F_comparator_o1 : Fld Z h0 o1 "java/util/PriorityQueue" "comparator" "Ljava/util/Comparator;" .null) (F_modCount_o1 : Fld Z h0 o1 "java/util/PriorityQueue" "modCount" "I" (.int 0)) (F_size_o1 : Fld Z h0 o1 "java/util/PriorityQueue" "size" "I" (.int 0)) :
    MetFree l (⟨"java/util/PriorityQueue", "<init>", "(ILjava/util/Comparator;)V"⟩ : MethodName) (head1 (Jvm.Cond.code (⟨"java/util/PriorityQueue", "<init>", "(ILjava/util/Comparator;)V"⟩ : MethodName) jdk_2655_method_4_code 3 none :: ws) ({ frames := 3, cells := 1, slots := 11, locals := 36 } : Room)) (fun a U => a = #[(.ref o1), (.int 11), .null] ∧ Z.Warmed39 U.vm ∧ U.heap = h0) (fun _ _ _ _ _ => True) (fun _ U o U' => ∃ v L, o = .returned v ∧ Q6_o1_11_null Z o1 h0 n0 v U'.heap L ∧ FrameEnd U o U' L ({ frames := 3, cells := 1, slots := 11, locals := 36 } : Room).cells ({ frames := 3, cells := 1, slots := 11, locals := 36 } : Room).slots) := by
  refine MetFree.of_bodySF (plainFor_of_name pn_6) hisR ?_
  intro p e s m args below meth c s₁ Bd hml0 hP hK
  obtain ⟨rfl, hZ, hh⟩ := hP
  have hx := Bd.exec
  have hby := Bd.bytes
  have hml : c.maxLocals = 3 := hml0
  have hown : s.vm.findClass "java/util/PriorityQueue" = some m.cls := findClass_of_methodNamed Bd.named
  have hnm := (name_of_methodNamed Bd.named Bd.method).1
  have X0 : Stand p l e ({ frames := 3, cells := 1, slots := 11, locals := 36 } : Room) s m #[(.ref o1), (.int 11), .null] below meth c s₁ [] 0 0 := Stand.of_body Bd
  have e0 : s₁.heap = h0 := by rw [← hh, Bd.state]; rfl
  have N0 := Fr.nil n0
  have pre0 : ∀ t, Steps p.tables e below (s₁.setTop (mkF m 0 #[.val (.ref o1), .val (.int 11), .val .null] [])) t → Steps p.tables e below (s₁.setTop (entryFrame m #[(.ref o1), (.int 11), .null] 3)) t := fun t k => castTop (by first | (simp [entryFrame, mkF, argsToLocals, Value.category]; done) | rfl) k
  obtain ⟨_, _, ⟨T1, L1, k1, n1⟩, -, X1, ⟨Lc1, hQ1, l1, y1, z1⟩, st1⟩ := X0.specialBack hx (y := (⟨"java/util/AbstractQueue", "<init>", "()V"⟩ : MethodName)) rfl hown (mvT hZ (hw _ (List.mem_of_getElem? (i := 40) rfl))) (mvT hZ (hw _ (List.mem_of_getElem? (i := 41) rfl))) (mvT hZ (hw _ (List.mem_of_getElem? (i := 45) rfl))) (by decide) (backOf (W := 0) (rm7_o1 l Z a0 hw [] o1 h0 n0 Z0) hZ (hw _ (List.mem_of_getElem? (i := 45) rfl)) (hw _ (List.mem_of_getElem? (i := 44) rfl)) (by decide) (by decide)) (g := (mkF m 1 #[.val (.ref o1), .val (.int 11), .val .null] [(.ref o1)])) rfl (by rw [hml]; rfl) (Steps.refl _) (a := o1) (argsL := []) (rest := []) (lenOf pd___V rfl) rfl (by show 2 * 0 + _ ≤ _; exact Nat.le_of_eq rfl) (hb hby d6_1) (fun _ _ => ⟨rfl, e0, (by decide : 0 + 0 ≤ _), (by decide : 0 + 0 ≤ _)⟩)
  dsimp only [Pt.U, Pt.locs, Pt.cells, Pt.slots] at X1 l1 y1 z1 st1 hQ1
  subst l1 y1 z1
  obtain ⟨rfl, N1q, e1⟩ := hQ1
  have N1 := Fr.app N0 N1q
  obtain ⟨T2, h2, k2, X2, e2, E2, A2, O2, st2⟩ := newR X1 hx hZ hown (hw _ (List.mem_of_getElem? (i := 53) rfl)) (hw _ (List.mem_of_getElem? (i := 54) rfl)) e1 (g := (mkF m 19 #[.val (.ref o1), .val (.int 11), .val .null] [(.int 11), (.ref o1)])) rfl (hb hby d6_19) rfl (by decide) (cap := 11) (by decide) (by decide) (by decide) (by decide)
  obtain ⟨b2, g2⟩ : ∃ z, z = h0.size := ⟨_, rfl⟩
  have s_b2 : h0.size ≤ b2 := Nat.le_of_eq g2.symm
  have g_b2 : n0 ≤ b2 := Nat.le_trans Z0 s_b2
  have sz_b2 : h0.size ≤ b2 := s_b2
  rw [← g2] at A2 st2
  have K2 : Keep h0 h2 [o1] := (Keep.refl h0 [o1]).ext E2
  have V_b2 : Arv Z h2 b2 k2 (.object "java/lang/Object") (11 : Int32) [.null, .null, .null, .null, .null, .null, .null, .null, .null, .null, .null] .null := (Arv.new A2 (by decide)).pad (pad_rep [] .null 11)
  obtain ⟨T3, h3, X3, e3, W3, st3⟩ := putF X2 hx hZ hown (host := "") (Or.inl (hw _ (List.mem_of_getElem? (i := 55) rfl))) Via.refl e2 (F_queue_o1.ext E2) (E_o1.ext E2) (Or.inl (hw _ (List.mem_of_getElem? (i := 56) rfl))) (hw _ (List.mem_of_getElem? (i := 31) rfl)) (ty := (.array (.object "java/lang/Object"))) (by decide) rfl rfl (g := (mkF m 22 #[.val (.ref o1), .val (.int 11), .val .null] [(.ref b2), (.ref o1)])) rfl rfl (hb hby d6_22)
  have Fw3 := (F_queue_o1.ext E2).same W3
  have N3 := Fr.snoc X3 N1 g_o1
  have K3 : Keep h0 h3 [o1] := K2.wr W3 (Or.inl (List.mem_of_getElem? (i := 0) rfl))
  obtain ⟨T4, h4, X4, e4, W4, st4⟩ := putF X3 hx hZ hown (host := "") (Or.inl (hw _ (List.mem_of_getElem? (i := 57) rfl))) Via.refl e3 ((F_comparator_o1.ext E2).other W3 (Or.inr (slot_ne (Or.inr (hw _ (List.mem_of_getElem? (i := 58) rfl))) (Or.inl (hw _ (List.mem_of_getElem? (i := 56) rfl))) (by decide) (t := (.object "java/util/Comparator")) (t' := (.array (.object "java/lang/Object"))) (by decide) (by decide)))) ((E_o1.ext E2).wr W3) (Or.inr ⟨(hw _ (List.mem_of_getElem? (i := 58) rfl)), rfl, hnm⟩) (hw _ (List.mem_of_getElem? (i := 31) rfl)) (ty := (.object "java/util/Comparator")) (by decide) rfl rfl (g := (mkF m 27 #[.val (.ref o1), .val (.int 11), .val .null] [.null, (.ref o1)])) rfl rfl (hb hby d6_27)
  have Fw4 := ((F_comparator_o1.ext E2).other W3 (Or.inr (slot_ne (Or.inr (hw _ (List.mem_of_getElem? (i := 58) rfl))) (Or.inl (hw _ (List.mem_of_getElem? (i := 56) rfl))) (by decide) (t := (.object "java/util/Comparator")) (t' := (.array (.object "java/lang/Object"))) (by decide) (by decide)))).same W4
  have N4 := Fr.snoc X4 N3 g_o1
  have K4 : Keep h0 h4 [o1] := K3.wr W4 (Or.inl (List.mem_of_getElem? (i := 0) rfl))
  obtain ⟨fs, hr, hrun, hended, hW, hsame⟩ := X4.leave (v := none) (fun _ => rfl)
  refine ⟨_, _, pre0 _ ?_, hrun, hended, _, _, rfl, ?_, ⟨_, rfl⟩, hW, hsame.mono (by decide) (by decide)⟩
  · show Steps p.tables e below (s₁.setTop (mkF m 0 #[.val (.ref o1), .val (.int 11), .val .null] [])) _
    refine XS.aloadN X0.here hx rfl (hb hby d6_0) rfl rfl ?_
    show Steps p.tables e below (s₁.setTop (mkF m 1 #[.val (.ref o1), .val (.int 11), .val .null] [(.ref o1)])) _
    refine st1.trans ?_
    show Steps p.tables e below (T1.setTop (mkF m 4 #[.val (.ref o1), .val (.int 11), .val .null] [])) _
    refine XS.iloadN X1.here hx rfl (hb hby d6_4) rfl ?_
    show Steps p.tables e below (T1.setTop (mkF m 5 #[.val (.ref o1), .val (.int 11), .val .null] [(.int 11)])) _
    refine XS.iconst X1.here hx rfl (hb hby d6_5) ?_
    show Steps p.tables e below (T1.setTop (mkF m 6 #[.val (.ref o1), .val (.int 11), .val .null] [(.int 1), (.int 11)])) _
    refine XS.icmpYes X1.here hx rfl (pc0 := 6) (pc' := 17) rfl (hb hby d6_6) rfl (flt (by decide : ¬ ((11 : Int32) < (1 : Int32)))).2.1 (by decide) (by decide) ?_
    show Steps p.tables e below (T1.setTop (mkF m 17 #[.val (.ref o1), .val (.int 11), .val .null] [])) _
    refine XS.aloadN X1.here hx rfl (hb hby d6_17) rfl rfl ?_
    show Steps p.tables e below (T1.setTop (mkF m 18 #[.val (.ref o1), .val (.int 11), .val .null] [(.ref o1)])) _
    refine XS.iloadN X1.here hx rfl (hb hby d6_18) rfl ?_
    show Steps p.tables e below (T1.setTop (mkF m 19 #[.val (.ref o1), .val (.int 11), .val .null] [(.int 11), (.ref o1)])) _
    refine st2 _ ?_
    show Steps p.tables e below (T2.setTop (mkF m 22 #[.val (.ref o1), .val (.int 11), .val .null] [(.ref b2), (.ref o1)])) _
    refine st3 _ ?_
    show Steps p.tables e below (T3.setTop (mkF m 25 #[.val (.ref o1), .val (.int 11), .val .null] [])) _
    refine XS.aloadN X3.here hx rfl (hb hby d6_25) rfl rfl ?_
    show Steps p.tables e below (T3.setTop (mkF m 26 #[.val (.ref o1), .val (.int 11), .val .null] [(.ref o1)])) _
    refine XS.aloadN X3.here hx rfl (hb hby d6_26) rfl rfl ?_
    show Steps p.tables e below (T3.setTop (mkF m 27 #[.val (.ref o1), .val (.int 11), .val .null] [.null, (.ref o1)])) _
    refine st4 _ ?_
    show Steps p.tables e below (T4.setTop (mkF m 30 #[.val (.ref o1), .val (.int 11), .val .null] [])) _
    exact X4.returnOut hx Bd.returns (hb hby d6_30) hr
  · show Q6_o1_11_null Z o1 h0 n0 _ T4.heap _
    rw [e4]
    exact ⟨b2, k2, rfl, N4, K4, sz_b2, (((E_o1.ext E2).wr W3).wr W4), (Fw3.other W4 (Or.inr (slot_ne (Or.inl (hw _ (List.mem_of_getElem? (i := 56) rfl))) (Or.inr (hw _ (List.mem_of_getElem? (i := 58) rfl))) (by decide) (t := (.array (.object "java/lang/Object"))) (t' := (.object "java/util/Comparator")) (by decide) (by decide)))), Fw4, (((F_modCount_o1.ext E2).other W3 (Or.inr (slot_ne (Or.inl (hw _ (List.mem_of_getElem? (i := 125) rfl))) (Or.inl (hw _ (List.mem_of_getElem? (i := 56) rfl))) (by decide) (t := .int) (t' := (.array (.object "java/lang/Object"))) (by decide) (by decide)))).other W4 (Or.inr (slot_ne (Or.inl (hw _ (List.mem_of_getElem? (i := 125) rfl))) (Or.inr (hw _ (List.mem_of_getElem? (i := 58) rfl))) (by decide) (t := .int) (t' := (.object "java/util/Comparator")) (by decide) (by decide)))), (((F_size_o1.ext E2).other W3 (Or.inr (slot_ne (Or.inl (hw _ (List.mem_of_getElem? (i := 127) rfl))) (Or.inl (hw _ (List.mem_of_getElem? (i := 56) rfl))) (by decide) (t := .int) (t' := (.array (.object "java/lang/Object"))) (by decide) (by decide)))).other W4 (Or.inr (slot_ne (Or.inl (hw _ (List.mem_of_getElem? (i := 127) rfl))) (Or.inr (hw _ (List.mem_of_getElem? (i := 58) rfl))) (by decide) (t := .int) (t' := (.object "java/util/Comparator")) (by decide) (by decide)))), ((V_b2.other W3 (Ne.symm (Nat.ne_of_lt (Nat.lt_of_lt_of_le (E_o1).lt sz_b2)))).other W4 (Ne.symm (Nat.ne_of_lt (Nat.lt_of_lt_of_le (E_o1).lt sz_b2)))), O2⟩
def Q5_o1 (Z : State) (o1 : Addr) (h0 : Heap) (n0 : Nat) (v : Option Value) (h : Heap) (L : List Loc) : Prop := ∃ (c1 : Addr), ∃ (kd2 : ClassId), v = none ∧ Fr n0 L ∧ Keep h0 h [o1] ∧ h0.size ≤ c1 ∧ Exa Z h o1 "java/util/PriorityQueue" ∧ Fld Z h o1 "java/util/PriorityQueue" "queue" "[Ljava/lang/Object;" (.ref c1) ∧ Fld Z h o1 "java/util/PriorityQueue" "comparator" "Ljava/util/Comparator;" .null ∧ Fld Z h o1 "java/util/PriorityQueue" "modCount" "I" (.int 0) ∧ Fld Z h o1 "java/util/PriorityQueue" "size" "I" (.int 0) ∧ Arv Z h c1 kd2 (.object "java/lang/Object") (11 : Int32) [.null, .null, .null, .null, .null, .null, .null, .null, .null, .null, .null] .null ∧ Ovr Z kd2 "java/lang/Object"
set_option maxRecDepth 65536 in
set_option maxHeartbeats 40000000 in
theorem rm5_o1 (l : Launch) (Z : State) (a0 : Array Value) (hw : ∀ d ∈ tables_1, d.before a0 Z = true) (ws : List Jvm.Cond) (o1 : Addr) (h0 : Heap) (n0 : Nat) (Z0 : n0 ≤ h0.size) (E_o1 : Exa Z h0 o1 "java/util/PriorityQueue") (F_queue_o1 : Fld Z h0 o1 "java/util/PriorityQueue" "queue" "[Ljava/lang/Object;" .null) (g_o1 : n0 ≤ o1) (F_comparator_o1 : Fld Z h0 o1 "java/util/PriorityQueue" "comparator" "Ljava/util/Comparator;" .null) (F_modCount_o1 : Fld Z h0 o1 "java/util/PriorityQueue" "modCount" "I" (.int 0)) (F_size_o1 : Fld Z h0 o1 "java/util/PriorityQueue" "size" "I" (.int 0)) :
    MetFree l (⟨"java/util/PriorityQueue", "<init>", "()V"⟩ : MethodName) (head1 (Jvm.Cond.code (⟨"java/util/PriorityQueue", "<init>", "()V"⟩ : MethodName) jdk_2655_method_1_code 1 none :: ws) ({ frames := 4, cells := 1, slots := 11, locals := 50 } : Room)) (fun a U => a = #[(.ref o1)] ∧ Z.Warmed39 U.vm ∧ U.heap = h0) (fun _ _ _ _ _ => True) (fun _ U o U' => ∃ v L, o = .returned v ∧ Q5_o1 Z o1 h0 n0 v U'.heap L ∧ FrameEnd U o U' L ({ frames := 4, cells := 1, slots := 11, locals := 50 } : Room).cells ({ frames := 4, cells := 1, slots := 11, locals := 50 } : Room).slots) := by
  refine MetFree.of_bodySF (plainFor_of_name pn_5) hisR ?_
  intro p e s m args below meth c s₁ Bd hml0 hP hK
  obtain ⟨rfl, hZ, hh⟩ := hP
  have hx := Bd.exec
  have hby := Bd.bytes
  have hml : c.maxLocals = 1 := hml0
  have hown : s.vm.findClass "java/util/PriorityQueue" = some m.cls := findClass_of_methodNamed Bd.named
  have hnm := (name_of_methodNamed Bd.named Bd.method).1
  have X0 : Stand p l e ({ frames := 4, cells := 1, slots := 11, locals := 50 } : Room) s m #[(.ref o1)] below meth c s₁ [] 0 0 := Stand.of_body Bd
  have e0 : s₁.heap = h0 := by rw [← hh, Bd.state]; rfl
  have N0 := Fr.nil n0
  have pre0 : ∀ t, Steps p.tables e below (s₁.setTop (mkF m 0 #[.val (.ref o1)] [])) t → Steps p.tables e below (s₁.setTop (entryFrame m #[(.ref o1)] 1)) t := fun t k => castTop (by first | (simp [entryFrame, mkF, argsToLocals, Value.category]; done) | rfl) k
  obtain ⟨_, _, ⟨T1, L1, k1, n1⟩, -, X1, ⟨Lc1, hQ1, l1, y1, z1⟩, st1⟩ := X0.specialBack hx (y := (⟨"java/util/PriorityQueue", "<init>", "(ILjava/util/Comparator;)V"⟩ : MethodName)) rfl hown (mvT hZ (hw _ (List.mem_of_getElem? (i := 36) rfl))) (mvT hZ (hw _ (List.mem_of_getElem? (i := 37) rfl))) (mvT hZ (hw _ (List.mem_of_getElem? (i := 39) rfl))) (by decide) (backOf (W := 0) (rm6_o1_11_null l Z a0 hw [] o1 h0 n0 Z0 E_o1 F_queue_o1 g_o1 F_comparator_o1 F_modCount_o1 F_size_o1) hZ (hw _ (List.mem_of_getElem? (i := 39) rfl)) (hw _ (List.mem_of_getElem? (i := 32) rfl)) (by decide) (by decide)) (g := (mkF m 4 #[.val (.ref o1)] [.null, (.int 11), (.ref o1)])) rfl (by rw [hml]; rfl) (Steps.refl _) (a := o1) (argsL := [(.int 11), .null]) (rest := []) (lenOf pd__ILjava_util_Comparator__V rfl) rfl (by show 2 * 0 + _ ≤ _; exact Nat.le_of_eq rfl) (hb hby d5_4) (fun _ _ => ⟨rfl, e0, (by decide : 0 + 1 ≤ _), (by decide : 0 + 11 ≤ _)⟩)
  dsimp only [Pt.U, Pt.locs, Pt.cells, Pt.slots] at X1 l1 y1 z1 st1 hQ1
  subst l1 y1 z1
  obtain ⟨b1c1, kc1kd2, rfl, N1q, Kq1, s_b1c1, fq1_0, fq1_1, fq1_2, fq1_3, fq1_4, fq1_5, fq1_6⟩ := hQ1
  have N1 := Fr.app N0 N1q
  have g_b1c1 : n0 ≤ b1c1 := Nat.le_trans Z0 s_b1c1
  have sz_b1c1 : h0.size ≤ b1c1 := s_b1c1
  have K1 : Keep h0 T1.heap [o1] := (Keep.refl h0 [o1]).trans Kq1 (allS (Or.inl (List.mem_of_getElem? (i := 0) rfl)) all0)
  obtain ⟨fs, hr, hrun, hended, hW, hsame⟩ := X1.leave (v := none) (fun _ => rfl)
  refine ⟨_, _, pre0 _ ?_, hrun, hended, _, _, rfl, ?_, ⟨_, rfl⟩, hW, hsame.mono (by decide) (by decide)⟩
  · show Steps p.tables e below (s₁.setTop (mkF m 0 #[.val (.ref o1)] [])) _
    refine XS.aloadN X0.here hx rfl (hb hby d5_0) rfl rfl ?_
    show Steps p.tables e below (s₁.setTop (mkF m 1 #[.val (.ref o1)] [(.ref o1)])) _
    refine XS.bipush X0.here hx rfl (hb hby d5_1) ?_
    show Steps p.tables e below (s₁.setTop (mkF m 3 #[.val (.ref o1)] [(.int 11), (.ref o1)])) _
    refine XS.aconstNull X0.here hx rfl (hb hby d5_3) ?_
    show Steps p.tables e below (s₁.setTop (mkF m 4 #[.val (.ref o1)] [.null, (.int 11), (.ref o1)])) _
    refine st1.trans ?_
    show Steps p.tables e below (T1.setTop (mkF m 7 #[.val (.ref o1)] [])) _
    exact X1.returnOut hx Bd.returns (hb hby d5_7) hr
  · show Q5_o1 Z o1 h0 n0 _ T1.heap _
    exact ⟨b1c1, kc1kd2, rfl, N1, K1, sz_b1c1, fq1_0, fq1_1, fq1_2, fq1_3, fq1_4, fq1_5, fq1_6⟩
def Q9_w_MILLISECONDS_p1 (Z : State) (w_MILLISECONDS : Addr) (p1 : Int64) (h0 : Heap) (n0 : Nat) (v : Option Value) (h : Heap) (L : List Loc) : Prop := v = some (.long (p1 * (1000000 : Int64))) ∧ Fr n0 L ∧ h = h0
set_option maxRecDepth 65536 in
set_option maxHeartbeats 40000000 in
theorem rm9_w_MILLISECONDS_p1 (l : Launch) (Z : State) (a0 : Array Value) (hw : ∀ d ∈ tables_1, d.before a0 Z = true) (ws : List Jvm.Cond) (w_MILLISECONDS : Addr) (p1 : Int64) (h0 : Heap) (n0 : Nat) (Z0 : n0 ≤ h0.size) (F_scale_w_MILLISECONDS : Fld Z h0 w_MILLISECONDS "java/util/concurrent/TimeUnit" "scale" "J" (.long 1000000)) (F_maxNanos_w_MILLISECONDS : Fld Z h0 w_MILLISECONDS "java/util/concurrent/TimeUnit" "maxNanos" "J" (.long 9223372036854)) (hc22 : ¬ ((0 : Int32) < (lcmpW p1 (9223372036854 : Int64)))) (hc34 : ¬ ((lcmpW p1 (-9223372036854 : Int64)) < (0 : Int32))) :
    MetFree l (⟨"java/util/concurrent/TimeUnit", "toNanos", "(J)J"⟩ : MethodName) (head1 (Jvm.Cond.code (⟨"java/util/concurrent/TimeUnit", "toNanos", "(J)J"⟩ : MethodName) jdk_2799_method_7_code 7 (some .long) :: ws) ({ frames := 0, cells := 0, slots := 0, locals := 0 } : Room)) (fun a U => a = #[(.ref w_MILLISECONDS), (.long p1)] ∧ Z.Warmed39 U.vm ∧ U.heap = h0) (fun _ _ _ _ _ => True) (fun _ U o U' => ∃ v L, o = .returned v ∧ Q9_w_MILLISECONDS_p1 Z w_MILLISECONDS p1 h0 n0 v U'.heap L ∧ FrameEnd U o U' L ({ frames := 0, cells := 0, slots := 0, locals := 0 } : Room).cells ({ frames := 0, cells := 0, slots := 0, locals := 0 } : Room).slots) := by
  refine MetFree.of_bodySF (plainFor_of_name pn_9) hisR ?_
  intro p e s m args below meth c s₁ Bd hml0 hP hK
  obtain ⟨rfl, hZ, hh⟩ := hP
  have hx := Bd.exec
  have hby := Bd.bytes
  have hml : c.maxLocals = 7 := hml0
  have hown : s.vm.findClass "java/util/concurrent/TimeUnit" = some m.cls := findClass_of_methodNamed Bd.named
  have hnm := (name_of_methodNamed Bd.named Bd.method).1
  have X0 : Stand p l e ({ frames := 0, cells := 0, slots := 0, locals := 0 } : Room) s m #[(.ref w_MILLISECONDS), (.long p1)] below meth c s₁ [] 0 0 := Stand.of_body Bd
  have e0 : s₁.heap = h0 := by rw [← hh, Bd.state]; rfl
  have N0 := Fr.nil n0
  have pre0 : ∀ t, Steps p.tables e below (s₁.setTop (mkF m 0 #[.val (.ref w_MILLISECONDS), .val (.long p1), .second, .unset, .unset, .unset, .unset] [])) t → Steps p.tables e below (s₁.setTop (entryFrame m #[(.ref w_MILLISECONDS), (.long p1)] 7)) t := fun t k => castTop (by first | (simp [entryFrame, mkF, argsToLocals, Value.category]; done) | rfl) k
  obtain ⟨T1, X1, e1, st1⟩ := getF X0 hx hZ hown (host := "") (Or.inl (hw _ (List.mem_of_getElem? (i := 68) rfl))) Via.refl e0 F_scale_w_MILLISECONDS (g := (mkF m 1 #[.val (.ref w_MILLISECONDS), .val (.long p1), .second, .unset, .unset, .unset, .unset] [(.ref w_MILLISECONDS)])) rfl rfl (hb hby d9_1)
  obtain ⟨T2, X2, e2, st2⟩ := getF X1 hx hZ hown (host := "") (Or.inl (hw _ (List.mem_of_getElem? (i := 70) rfl))) Via.refl e1 F_maxNanos_w_MILLISECONDS (g := (mkF m 15 #[.val (.ref w_MILLISECONDS), .val (.long p1), .second, .val (.long 1000000), .second, .unset, .unset] [(.ref w_MILLISECONDS), (.long p1)])) rfl rfl (hb hby d9_15)
  obtain ⟨fs, hr, hrun, hended, hW, hsame⟩ := X2.leave (v := some (.long (p1 * (1000000 : Int64)))) (fun h => by rw [Bd.returns] at h; cases h)
  refine ⟨_, _, pre0 _ ?_, hrun, hended, _, _, rfl, ?_, ⟨_, rfl⟩, hW, hsame.mono (by decide) (by decide)⟩
  · show Steps p.tables e below (s₁.setTop (mkF m 0 #[.val (.ref w_MILLISECONDS), .val (.long p1), .second, .unset, .unset, .unset, .unset] [])) _
    refine XS.aloadN X0.here hx rfl (hb hby d9_0) rfl rfl ?_
    show Steps p.tables e below (s₁.setTop (mkF m 1 #[.val (.ref w_MILLISECONDS), .val (.long p1), .second, .unset, .unset, .unset, .unset] [(.ref w_MILLISECONDS)])) _
    refine st1 _ ?_
    show Steps p.tables e below (T1.setTop (mkF m 4 #[.val (.ref w_MILLISECONDS), .val (.long p1), .second, .unset, .unset, .unset, .unset] [(.long 1000000)])) _
    refine XT.dup2L X1.here hx rfl (hb hby d9_4) rfl ?_
    show Steps p.tables e below (T1.setTop (mkF m 5 #[.val (.ref w_MILLISECONDS), .val (.long p1), .second, .unset, .unset, .unset, .unset] [(.long 1000000), (.long 1000000)])) _
    refine XS.lstoreN X1.here hx rfl (hb hby d9_5) rfl (l' := #[.val (.ref w_MILLISECONDS), .val (.long p1), .second, .val (.long 1000000), .second, .unset, .unset]) rfl ?_
    show Steps p.tables e below (T1.setTop (mkF m 6 #[.val (.ref w_MILLISECONDS), .val (.long p1), .second, .val (.long 1000000), .second, .unset, .unset] [(.long 1000000)])) _
    refine XS.lconst X1.here hx rfl (hb hby d9_6) ?_
    show Steps p.tables e below (T1.setTop (mkF m 7 #[.val (.ref w_MILLISECONDS), .val (.long p1), .second, .val (.long 1000000), .second, .unset, .unset] [(.long 1), (.long 1000000)])) _
    refine XS.lcmp X1.here hx rfl (hb hby d9_7) rfl ?_
    show Steps p.tables e below (T1.setTop (mkF m 8 #[.val (.ref w_MILLISECONDS), .val (.long p1), .second, .val (.long 1000000), .second, .unset, .unset] [(.int (lcmpW (1000000 : Int64) (1 : Int64)))])) _
    rw [(by decide : (lcmpW (1000000 : Int64) (1 : Int64)) = (1 : Int32))]
    show Steps p.tables e below (T1.setTop (mkF m 8 #[.val (.ref w_MILLISECONDS), .val (.long p1), .second, .val (.long 1000000), .second, .unset, .unset] [(.int 1)])) _
    refine XS.ifYes X1.here hx rfl (pc0 := 8) (pc' := 13) rfl (hb hby d9_8) rfl ((if0 _ _).trans (feq (by decide : ¬ ((1 : Int32) = (0 : Int32)))).2) (by decide) (by decide) ?_
    show Steps p.tables e below (T1.setTop (mkF m 13 #[.val (.ref w_MILLISECONDS), .val (.long p1), .second, .val (.long 1000000), .second, .unset, .unset] [])) _
    refine XS.lloadN X1.here hx rfl (hb hby d9_13) rfl ?_
    show Steps p.tables e below (T1.setTop (mkF m 14 #[.val (.ref w_MILLISECONDS), .val (.long p1), .second, .val (.long 1000000), .second, .unset, .unset] [(.long p1)])) _
    refine XS.aloadN X1.here hx rfl (hb hby d9_14) rfl rfl ?_
    show Steps p.tables e below (T1.setTop (mkF m 15 #[.val (.ref w_MILLISECONDS), .val (.long p1), .second, .val (.long 1000000), .second, .unset, .unset] [(.ref w_MILLISECONDS), (.long p1)])) _
    refine st2 _ ?_
    show Steps p.tables e below (T2.setTop (mkF m 18 #[.val (.ref w_MILLISECONDS), .val (.long p1), .second, .val (.long 1000000), .second, .unset, .unset] [(.long 9223372036854), (.long p1)])) _
    refine XT.dup2L X2.here hx rfl (hb hby d9_18) rfl ?_
    show Steps p.tables e below (T2.setTop (mkF m 19 #[.val (.ref w_MILLISECONDS), .val (.long p1), .second, .val (.long 1000000), .second, .unset, .unset] [(.long 9223372036854), (.long 9223372036854), (.long p1)])) _
    refine XS.lstore X2.here hx rfl (hb hby d9_19) rfl (l' := #[.val (.ref w_MILLISECONDS), .val (.long p1), .second, .val (.long 1000000), .second, .val (.long 9223372036854), .second]) rfl ?_
    show Steps p.tables e below (T2.setTop (mkF m 21 #[.val (.ref w_MILLISECONDS), .val (.long p1), .second, .val (.long 1000000), .second, .val (.long 9223372036854), .second] [(.long 9223372036854), (.long p1)])) _
    refine XS.lcmp X2.here hx rfl (hb hby d9_21) rfl ?_
    show Steps p.tables e below (T2.setTop (mkF m 22 #[.val (.ref w_MILLISECONDS), .val (.long p1), .second, .val (.long 1000000), .second, .val (.long 9223372036854), .second] [(.int (lcmpW p1 (9223372036854 : Int64)))])) _
    refine XS.ifYes X2.here hx rfl (pc0 := 22) (pc' := 29) rfl (hb hby d9_22) rfl ((if0 _ _).trans (flt hc22).2.2.2) (by decide) (by decide) ?_
    show Steps p.tables e below (T2.setTop (mkF m 29 #[.val (.ref w_MILLISECONDS), .val (.long p1), .second, .val (.long 1000000), .second, .val (.long 9223372036854), .second] [])) _
    refine XS.lloadN X2.here hx rfl (hb hby d9_29) rfl ?_
    show Steps p.tables e below (T2.setTop (mkF m 30 #[.val (.ref w_MILLISECONDS), .val (.long p1), .second, .val (.long 1000000), .second, .val (.long 9223372036854), .second] [(.long p1)])) _
    refine XS.lload X2.here hx rfl (hb hby d9_30) rfl ?_
    show Steps p.tables e below (T2.setTop (mkF m 32 #[.val (.ref w_MILLISECONDS), .val (.long p1), .second, .val (.long 1000000), .second, .val (.long 9223372036854), .second] [(.long 9223372036854), (.long p1)])) _
    refine XS.lneg X2.here hx rfl (hb hby d9_32) rfl ?_
    show Steps p.tables e below (T2.setTop (mkF m 33 #[.val (.ref w_MILLISECONDS), .val (.long p1), .second, .val (.long 1000000), .second, .val (.long 9223372036854), .second] [(.long (-(9223372036854 : Int64))), (.long p1)])) _
    rw [(by decide : (-(9223372036854 : Int64)) = (-9223372036854 : Int64))]
    show Steps p.tables e below (T2.setTop (mkF m 33 #[.val (.ref w_MILLISECONDS), .val (.long p1), .second, .val (.long 1000000), .second, .val (.long 9223372036854), .second] [(.long (-9223372036854)), (.long p1)])) _
    refine XS.lcmp X2.here hx rfl (hb hby d9_33) rfl ?_
    show Steps p.tables e below (T2.setTop (mkF m 34 #[.val (.ref w_MILLISECONDS), .val (.long p1), .second, .val (.long 1000000), .second, .val (.long 9223372036854), .second] [(.int (lcmpW p1 (-9223372036854 : Int64)))])) _
    refine XS.ifYes X2.here hx rfl (pc0 := 34) (pc' := 41) rfl (hb hby d9_34) rfl ((if0 _ _).trans (flt hc34).2.1) (by decide) (by decide) ?_
    show Steps p.tables e below (T2.setTop (mkF m 41 #[.val (.ref w_MILLISECONDS), .val (.long p1), .second, .val (.long 1000000), .second, .val (.long 9223372036854), .second] [])) _
    refine XS.lloadN X2.here hx rfl (hb hby d9_41) rfl ?_
    show Steps p.tables e below (T2.setTop (mkF m 42 #[.val (.ref w_MILLISECONDS), .val (.long p1), .second, .val (.long 1000000), .second, .val (.long 9223372036854), .second] [(.long p1)])) _
    refine XS.lloadN X2.here hx rfl (hb hby d9_42) rfl ?_
    show Steps p.tables e below (T2.setTop (mkF m 43 #[.val (.ref w_MILLISECONDS), .val (.long p1), .second, .val (.long 1000000), .second, .val (.long 9223372036854), .second] [(.long 1000000), (.long p1)])) _
    refine XS.lmul X2.here hx rfl (hb hby d9_43) rfl ?_
    show Steps p.tables e below (T2.setTop (mkF m 44 #[.val (.ref w_MILLISECONDS), .val (.long p1), .second, .val (.long 1000000), .second, .val (.long 9223372036854), .second] [(.long (p1 * (1000000 : Int64)))])) _
    jvm_step X2.here [X2.here.top, hx, (hb hby d9_44), X2.method', Bd.returns, narrow]
    first | (intro acts; rw [hr _ acts rfl rfl rfl]) | rw [hr _ _ rfl rfl rfl]
    exact Steps.refl _
  · show Q9_w_MILLISECONDS_p1 Z w_MILLISECONDS p1 h0 n0 _ T2.heap _
    rw [e2]
    exact ⟨rfl, N0, rfl⟩
def Q1_o1_vt (Z : State) (o1 : Addr) (vt : Int32) (w_MILLISECONDS : Addr) (tk : Int64) (lp : Int64) (h0 : Heap) (n0 : Nat) (v : Option Value) (h : Heap) (L : List Loc) : Prop := ∃ (c1 : Addr), ∃ (c2 : Addr), ∃ (c3 : Addr), ∃ (kd4 : ClassId), v = none ∧ Fr n0 L ∧ Keep h0 h [o1] ∧ h0.size ≤ c1 ∧ h0.size ≤ c2 ∧ h0.size ≤ c3 ∧ c1 ≠ c2 ∧ c1 ≠ c3 ∧ c2 ≠ c3 ∧ Exa Z h o1 "com/example/epochcast/epochcast/server/SessionLeases" ∧ Fld Z h o1 "com/example/epochcast/epochcast/server/SessionLeases" "leases" "Ljava/util/Map;" (.ref c1) ∧ Fld Z h o1 "com/example/epochcast/epochcast/server/SessionLeases" "due" "Ljava/util/PriorityQueue;" (.ref c2) ∧ Fld Z h o1 "com/example/epochcast/epochcast/server/SessionLeases" "tick" "J" (.long tk) ∧ Fld Z h o1 "com/example/epochcast/epochcast/server/SessionLeases" "lapse" "J" (.long lp) ∧ Fld Z h o1 "com/example/epochcast/epochcast/server/SessionLeases" "lastHeartbeat" "J" (.long 0) ∧ Fld Z h o1 "com/example/epochcast/epochcast/server/SessionLeases" "countingFrom" "J" (.long 0) ∧ Exa Z h c1 "java/util/HashMap" ∧ Fld Z h c1 "java/util/HashMap" "loadFactor" "F" (.float (1061158912 : UInt32)) ∧ Fld Z h c1 "java/util/HashMap" "modCount" "I" (.int 0) ∧ Fld Z h c1 "java/util/HashMap" "table" "[Ljava/util/HashMap$Node;" .null ∧ Exa Z h c2 "java/util/PriorityQueue" ∧ Fld Z h c2 "java/util/PriorityQueue" "queue" "[Ljava/lang/Object;" (.ref c3) ∧ Fld Z h c2 "java/util/PriorityQueue" "comparator" "Ljava/util/Comparator;" .null ∧ Fld Z h c2 "java/util/PriorityQueue" "modCount" "I" (.int 0) ∧ Fld Z h c2 "java/util/PriorityQueue" "size" "I" (.int 0) ∧ Arv Z h c3 kd4 (.object "java/lang/Object") (11 : Int32) [.null, .null, .null, .null, .null, .null, .null, .null, .null, .null, .null] .null ∧ Ovr Z kd4 "java/lang/Object"
set_option maxRecDepth 65536 in
set_option maxHeartbeats 40000000 in
theorem rm1_o1_vt (l : Launch) (Z : State) (a0 : Array Value) (hw : ∀ d ∈ tables_1, d.before a0 Z = true) (ws : List Jvm.Cond) (o1 : Addr) (vt : Int32) (w_MILLISECONDS : Addr) (tk : Int64) (lp : Int64) (h0 : Heap) (n0 : Nat) (Z0 : n0 ≤ h0.size) (E_o1 : Exa Z h0 o1 "com/example/epochcast/epochcast/server/SessionLeases") (F_leases_o1 : Fld Z h0 o1 "com/example/epochcast/epochcast/server/SessionLeases" "leases" "Ljava/util/Map;" .null) (g_o1 : n0 ≤ o1) (F_due_o1 : Fld Z h0 o1 "com/example/epochcast/epochcast/server/SessionLeases" "due" "Ljava/util/PriorityQueue;" .null) (S_MILLISECONDS : Sta Z h0 "java/util/concurrent/TimeUnit" "MILLISECONDS" "Ljava/util/concurrent/TimeUnit;" (.ref w_MILLISECONDS)) (F_scale_w_MILLISECONDS : Fld Z h0 w_MILLISECONDS "java/util/concurrent/TimeUnit" "scale" "J" (.long 1000000)) (n_o1_w_MILLISECONDS : ¬ (o1 = w_MILLISECONDS)) (F_maxNanos_w_MILLISECONDS : Fld Z h0 w_MILLISECONDS "java/util/concurrent/TimeUnit" "maxNanos" "J" (.long 9223372036854)) (hc22 : ¬ ((0 : Int32) < (lcmpW (vt.toInt64) (9223372036854 : Int64)))) (hc34 : ¬ ((lcmpW (vt.toInt64) (-9223372036854 : Int64)) < (0 : Int32))) (E_w_MILLISECONDS : Exa Z h0 w_MILLISECONDS "java/util/concurrent/TimeUnit") (htk : ((vt.toInt64) * (1000000 : Int64)) = tk) (F_tick_o1 : Fld Z h0 o1 "com/example/epochcast/epochcast/server/SessionLeases" "tick" "J" (.long 0)) (hlp : (tk + (tk / (4 : Int64))) = lp) (F_lapse_o1 : Fld Z h0 o1 "com/example/epochcast/epochcast/server/SessionLeases" "lapse" "J" (.long 0)) (F_lastHeartbeat_o1 : Fld Z h0 o1 "com/example/epochcast/epochcast/server/SessionLeases" "lastHeartbeat" "J" (.long 0)) (F_countingFrom_o1 : Fld Z h0 o1 "com/example/epochcast/epochcast/server/SessionLeases" "countingFrom" "J" (.long 0)) :
    MetFree l (⟨"com/example/epochcast/epochcast/server/SessionLeases", "<init>", "(I)V"⟩ : MethodName) (head1 (Jvm.Cond.code (⟨"com/example/epochcast/epochcast/server/SessionLeases", "<init>", "(I)V"⟩ : MethodName) prog_190_method_1_code 2 none :: ws) ({ frames := 5, cells := 3, slots := 23, locals := 64 } : Room)) (fun a U => a = #[(.ref o1), (.int vt)] ∧ Z.Warmed39 U.vm ∧ U.heap = h0) (fun _ _ _ _ _ => True) (fun _ U o U' => ∃ v L, o = .returned v ∧ Q1_o1_vt Z o1 vt w_MILLISECONDS tk lp h0 n0 v U'.heap L ∧ FrameEnd U o U' L ({ frames := 5, cells := 3, slots := 23, locals := 64 } : Room).cells ({ frames := 5, cells := 3, slots := 23, locals := 64 } : Room).slots) := by
  refine MetFree.of_bodySF (plainFor_of_name pn_1) hisR ?_
  intro p e s m args below meth c s₁ Bd hml0 hP hK
  obtain ⟨rfl, hZ, hh⟩ := hP
  have hx := Bd.exec
  have hby := Bd.bytes
  have hml : c.maxLocals = 2 := hml0
  have hown : s.vm.findClass "com/example/epochcast/epochcast/server/SessionLeases" = some m.cls := findClass_of_methodNamed Bd.named
  have hnm := (name_of_methodNamed Bd.named Bd.method).1
  have X0 : Stand p l e ({ frames := 5, cells := 3, slots := 23, locals := 64 } : Room) s m #[(.ref o1), (.int vt)] below meth c s₁ [] 0 0 := Stand.of_body Bd
  have e0 : s₁.heap = h0 := by rw [← hh, Bd.state]; rfl
  have N0 := Fr.nil n0
  have pre0 : ∀ t, Steps p.tables e below (s₁.setTop (mkF m 0 #[.val (.ref o1), .val (.int vt)] [])) t → Steps p.tables e below (s₁.setTop (entryFrame m #[(.ref o1), (.int vt)] 2)) t := fun t k => castTop (by first | (simp [entryFrame, mkF, argsToLocals, Value.category]; done) | rfl) k
  obtain ⟨T1, X1, e1, st1⟩ := initO X0 hx hZ hown (hw _ (List.mem_of_getElem? (i := 9) rfl)) (hw _ (List.mem_of_getElem? (i := 10) rfl)) (hw _ (List.mem_of_getElem? (i := 11) rfl)) e0 (g := (mkF m 1 #[.val (.ref o1), .val (.int vt)] [(.ref o1)])) rfl (by rw [hml]; rfl) rfl (hb hby d1_1) (by decide) (W := 0) (by show 2 * 0 + _ ≤ _; exact Nat.le_of_eq rfl) (by decide)
  obtain ⟨T2, h2, X2, e2, E2, A2, D2, -, st2⟩ := newO X1 hx hZ hown (hw _ (List.mem_of_getElem? (i := 12) rfl)) (hw _ (List.mem_of_getElem? (i := 13) rfl)) (hw _ (List.mem_of_getElem? (i := 14) rfl)) e1 (g := (mkF m 5 #[.val (.ref o1), .val (.int vt)] [(.ref o1)])) rfl (hb hby d1_5) (by decide) (by decide)
  obtain ⟨b2, g2⟩ : ∃ z, z = h0.size := ⟨_, rfl⟩
  have s_b2 : h0.size ≤ b2 := Nat.le_of_eq g2.symm
  have g_b2 : n0 ≤ b2 := Nat.le_trans Z0 s_b2
  have sz_b2 : h0.size ≤ b2 := s_b2
  rw [← g2] at A2 D2 st2
  have K2 : Keep h0 h2 [o1] := (Keep.refl h0 [o1]).ext E2
  have F_loadFactor_b2 : Fld Z h2 b2 "java/util/HashMap" "loadFactor" "F" (defaultValue .float) := D2 (Or.inr (hw _ (List.mem_of_getElem? (i := 27) rfl))) (ty := .float) (by decide)
  have F_modCount_b2 : Fld Z h2 b2 "java/util/HashMap" "modCount" "I" (.int 0) := D2 (Or.inl (hw _ (List.mem_of_getElem? (i := 116) rfl))) (ty := .int) (by decide)
  have F_table_b2 : Fld Z h2 b2 "java/util/HashMap" "table" "[Ljava/util/HashMap$Node;" .null := D2 (Or.inl (hw _ (List.mem_of_getElem? (i := 118) rfl))) (ty := (.array (.object "java/util/HashMap$Node"))) (by decide)
  obtain ⟨_, _, ⟨T3, L3, k3, n3⟩, -, X3, ⟨Lc3, hQ3, l3, y3, z3⟩, st3⟩ := X2.specialBack hx (y := (⟨"java/util/HashMap", "<init>", "()V"⟩ : MethodName)) rfl hown (mvT hZ (hw _ (List.mem_of_getElem? (i := 15) rfl))) (mvT hZ (hw _ (List.mem_of_getElem? (i := 16) rfl))) (mvT hZ (hw _ (List.mem_of_getElem? (i := 17) rfl))) (by decide) (backOf (W := 2) (rm3_o1 l Z a0 hw [] b2 h2 n0 (Nat.le_trans Z0 K2.1) A2 F_loadFactor_b2 g_b2 F_modCount_b2 F_table_b2) hZ (hw _ (List.mem_of_getElem? (i := 17) rfl)) (hw _ (List.mem_of_getElem? (i := 14) rfl)) (by decide) (by decide)) (g := (mkF m 9 #[.val (.ref o1), .val (.int vt)] [(.ref b2), (.ref b2), (.ref o1)])) rfl (by rw [hml]; rfl) (Steps.refl _) (a := b2) (argsL := []) (rest := [(.ref b2), (.ref o1)]) (lenOf pd___V rfl) rfl (by show 2 * 0 + _ ≤ _; exact Nat.le_of_eq rfl) (hb hby d1_9) (fun _ _ => ⟨rfl, e2, (by decide : 1 + 0 ≤ _), (by decide : 8 + 0 ≤ _)⟩)
  dsimp only [Pt.U, Pt.locs, Pt.cells, Pt.slots] at X3 l3 y3 z3 st3 hQ3
  subst l3 y3 z3
  obtain ⟨rfl, N3q, Kq3, fq3_0, fq3_1, fq3_2, fq3_3⟩ := hQ3
  have N3 := Fr.app N0 N3q
  have K3 : Keep h0 T3.heap [o1] := K2.trans Kq3 (allS (Or.inr sz_b2) all0)
  obtain ⟨T4, h4, X4, e4, W4, st4⟩ := putF X3 hx hZ hown (host := "") (Or.inl (hw _ (List.mem_of_getElem? (i := 28) rfl))) Via.refl rfl ((F_leases_o1.ext E2).keep Kq3 (ninS (Nat.ne_of_lt (Nat.lt_of_lt_of_le (E_o1).lt sz_b2)) nin0)) ((E_o1.ext E2).keep Kq3) (Or.inr ⟨(hw _ (List.mem_of_getElem? (i := 29) rfl)), rfl, hnm⟩) (hw _ (List.mem_of_getElem? (i := 4) rfl)) (ty := (.object "java/util/Map")) (by decide) rfl rfl (g := (mkF m 12 #[.val (.ref o1), .val (.int vt)] [(.ref b2), (.ref o1)])) rfl rfl (hb hby d1_12)
  have Fw4 := ((F_leases_o1.ext E2).keep Kq3 (ninS (Nat.ne_of_lt (Nat.lt_of_lt_of_le (E_o1).lt sz_b2)) nin0)).same W4
  have N4 := Fr.snoc X4 N3 g_o1
  have K4 : Keep h0 h4 [o1] := K3.wr W4 (Or.inl (List.mem_of_getElem? (i := 0) rfl))
  obtain ⟨T5, h5, X5, e5, E5, A5, D5, -, st5⟩ := newO X4 hx hZ hown (hw _ (List.mem_of_getElem? (i := 30) rfl)) (hw _ (List.mem_of_getElem? (i := 31) rfl)) (hw _ (List.mem_of_getElem? (i := 32) rfl)) e4 (g := (mkF m 16 #[.val (.ref o1), .val (.int vt)] [(.ref o1)])) rfl (hb hby d1_16) (by decide) (by decide)
  obtain ⟨b5, g5⟩ : ∃ z, z = h4.size := ⟨_, rfl⟩
  have s_b5 : h4.size ≤ b5 := Nat.le_of_eq g5.symm
  have g_b5 : n0 ≤ b5 := Nat.le_trans (Nat.le_trans Z0 K4.1) s_b5
  have sz_b5 : h0.size ≤ b5 := Nat.le_trans K4.1 s_b5
  rw [← g5] at A5 D5 st5
  have K5 : Keep h0 h5 [o1] := K4.ext E5
  have F_queue_b5 : Fld Z h5 b5 "java/util/PriorityQueue" "queue" "[Ljava/lang/Object;" .null := D5 (Or.inl (hw _ (List.mem_of_getElem? (i := 56) rfl))) (ty := (.array (.object "java/lang/Object"))) (by decide)
  have F_comparator_b5 : Fld Z h5 b5 "java/util/PriorityQueue" "comparator" "Ljava/util/Comparator;" .null := D5 (Or.inr (hw _ (List.mem_of_getElem? (i := 58) rfl))) (ty := (.object "java/util/Comparator")) (by decide)
  have F_modCount_b5 : Fld Z h5 b5 "java/util/PriorityQueue" "modCount" "I" (.int 0) := D5 (Or.inl (hw _ (List.mem_of_getElem? (i := 125) rfl))) (ty := .int) (by decide)
  have F_size_b5 : Fld Z h5 b5 "java/util/PriorityQueue" "size" "I" (.int 0) := D5 (Or.inl (hw _ (List.mem_of_getElem? (i := 127) rfl))) (ty := .int) (by decide)
  obtain ⟨_, _, ⟨T6, L6, k6, n6⟩, -, X6, ⟨Lc6, hQ6, l6, y6, z6⟩, st6⟩ := X5.specialBack hx (y := (⟨"java/util/PriorityQueue", "<init>", "()V"⟩ : MethodName)) rfl hown (mvT hZ (hw _ (List.mem_of_getElem? (i := 33) rfl))) (mvT hZ (hw _ (List.mem_of_getElem? (i := 34) rfl))) (mvT hZ (hw _ (List.mem_of_getElem? (i := 35) rfl))) (by decide) (backOf (W := 2) (rm5_o1 l Z a0 hw [] b5 h5 n0 (Nat.le_trans Z0 K5.1) A5 F_queue_b5 g_b5 F_comparator_b5 F_modCount_b5 F_size_b5) hZ (hw _ (List.mem_of_getElem? (i := 35) rfl)) (hw _ (List.mem_of_getElem? (i := 32) rfl)) (by decide) (by decide)) (g := (mkF m 20 #[.val (.ref o1), .val (.int vt)] [(.ref b5), (.ref b5), (.ref o1)])) rfl (by rw [hml]; rfl) (Steps.refl _) (a := b5) (argsL := []) (rest := [(.ref b5), (.ref o1)]) (lenOf pd___V rfl) rfl (by show 2 * 0 + _ ≤ _; exact Nat.le_of_eq rfl) (hb hby d1_20) (fun _ _ => ⟨rfl, e5, (by decide : 2 + 1 ≤ _), (by decide : 12 + 11 ≤ _)⟩)
  dsimp only [Pt.U, Pt.locs, Pt.cells, Pt.slots] at X6 l6 y6 z6 st6 hQ6
  subst l6 y6 z6
  obtain ⟨b6c1, kc6kd2, rfl, N6q, Kq6, s_b6c1, fq6_0, fq6_1, fq6_2, fq6_3, fq6_4, fq6_5, fq6_6⟩ := hQ6
  have N6 := Fr.app N4 N6q
  have g_b6c1 : n0 ≤ b6c1 := Nat.le_trans (Nat.le_trans Z0 K5.1) s_b6c1
  have sz_b6c1 : h0.size ≤ b6c1 := Nat.le_trans K5.1 s_b6c1
  have K6 : Keep h0 T6.heap [o1] := K5.trans Kq6 (allS (Or.inr sz_b5) all0)
  obtain ⟨T7, h7, X7, e7, W7, st7⟩ := putF X6 hx hZ hown (host := "") (Or.inl (hw _ (List.mem_of_getElem? (i := 59) rfl))) Via.refl rfl (((((F_due_o1.ext E2).keep Kq3 (ninS (Nat.ne_of_lt (Nat.lt_of_lt_of_le (E_o1).lt sz_b2)) nin0)).other W4 (Or.inr (slot_ne (Or.inr (hw _ (List.mem_of_getElem? (i := 60) rfl))) (Or.inr (hw _ (List.mem_of_getElem? (i := 29) rfl))) (by decide) (t := (.object "java/util/PriorityQueue")) (t' := (.object "java/util/Map")) (by decide) (by decide)))).ext E5).keep Kq6 (ninS (Nat.ne_of_lt (Nat.lt_of_lt_of_le (E_o1).lt sz_b5)) nin0)) (((((E_o1.ext E2).keep Kq3).wr W4).ext E5).keep Kq6) (Or.inr ⟨(hw _ (List.mem_of_getElem? (i := 60) rfl)), rfl, hnm⟩) (hw _ (List.mem_of_getElem? (i := 4) rfl)) (ty := (.object "java/util/PriorityQueue")) (by decide) rfl rfl (g := (mkF m 23 #[.val (.ref o1), .val (.int vt)] [(.ref b5), (.ref o1)])) rfl rfl (hb hby d1_23)
  have Fw7 := (((((F_due_o1.ext E2).keep Kq3 (ninS (Nat.ne_of_lt (Nat.lt_of_lt_of_le (E_o1).lt sz_b2)) nin0)).other W4 (Or.inr (slot_ne (Or.inr (hw _ (List.mem_of_getElem? (i := 60) rfl))) (Or.inr (hw _ (List.mem_of_getElem? (i := 29) rfl))) (by decide) (t := (.object "java/util/PriorityQueue")) (t' := (.object "java/util/Map")) (by decide) (by decide)))).ext E5).keep Kq6 (ninS (Nat.ne_of_lt (Nat.lt_of_lt_of_le (E_o1).lt sz_b5)) nin0)).same W7
  have N7 := Fr.snoc X7 N6 g_o1
  have K7 : Keep h0 h7 [o1] := K6.wr W7 (Or.inl (List.mem_of_getElem? (i := 0) rfl))
  obtain ⟨T8, X8, e8, st8⟩ := getS2 X7 hx hZ hown (host := "") (Or.inl (hw _ (List.mem_of_getElem? (i := 61) rfl))) Via.refl e7 ((own_sta_keep1 (((own_sta_keep1 (S_MILLISECONDS.ext E2) Kq3 A2).wr W4).ext E5) Kq6 A5).wr W7) (g := (mkF m 27 #[.val (.ref o1), .val (.int vt)] [(.ref o1)])) rfl (hb hby d1_27)
  obtain ⟨cq9, kq9, q9a, q9b, q9c⟩ := isOf hZ e8 ((((((E_w_MILLISECONDS.ext E2).keep Kq3).wr W4).ext E5).keep Kq6).wr W7)
  obtain ⟨_, _, ⟨T9, L9, k9, n9⟩, -, X9, ⟨Lc9, hQ9, l9, y9, z9⟩, st9⟩ := X8.virtualBack hx (y := (⟨"java/util/concurrent/TimeUnit", "toNanos", "(J)J"⟩ : MethodName)) (z := (⟨"java/util/concurrent/TimeUnit", "toNanos", "(J)J"⟩ : MethodName)) hown (mvT hZ (hw _ (List.mem_of_getElem? (i := 63) rfl))) (mvT hZ (hw _ (List.mem_of_getElem? (i := 64) rfl))) (notFace_of_selects (args := #[]) (mvT hZ (hw _ (List.mem_of_getElem? (i := 66) rfl)))) (mvT hZ (hw _ (List.mem_of_getElem? (i := 66) rfl))) (mvT hZ (hw _ (List.mem_of_getElem? (i := 65) rfl))) (by decide) (backOf (W := 1) (rm9_w_MILLISECONDS_p1 l Z a0 hw [] w_MILLISECONDS (vt.toInt64) h7 n0 (Nat.le_trans Z0 K7.1) ((((((F_scale_w_MILLISECONDS.ext E2).keep Kq3 (ninS (Nat.ne_of_lt (Nat.lt_of_lt_of_le (F_scale_w_MILLISECONDS).lt sz_b2)) nin0)).other W4 (Or.inl (Ne.symm n_o1_w_MILLISECONDS))).ext E5).keep Kq6 (ninS (Nat.ne_of_lt (Nat.lt_of_lt_of_le (F_scale_w_MILLISECONDS).lt sz_b5)) nin0)).other W7 (Or.inl (Ne.symm n_o1_w_MILLISECONDS))) ((((((F_maxNanos_w_MILLISECONDS.ext E2).keep Kq3 (ninS (Nat.ne_of_lt (Nat.lt_of_lt_of_le (F_scale_w_MILLISECONDS).lt sz_b2)) nin0)).other W4 (Or.inl (Ne.symm n_o1_w_MILLISECONDS))).ext E5).keep Kq6 (ninS (Nat.ne_of_lt (Nat.lt_of_lt_of_le (F_scale_w_MILLISECONDS).lt sz_b5)) nin0)).other W7 (Or.inl (Ne.symm n_o1_w_MILLISECONDS))) hc22 hc34) hZ (hw _ (List.mem_of_getElem? (i := 67) rfl)) (hw _ (List.mem_of_getElem? (i := 62) rfl)) (by decide) (by decide)) q9a q9c (g := (mkF m 32 #[.val (.ref o1), .val (.int vt)] [(.long (vt.toInt64)), (.ref w_MILLISECONDS), (.ref o1)])) rfl (by rw [hml]; rfl) (Steps.refl _) (argsL := [(.long (vt.toInt64))]) (rest := [(.ref o1)]) (lenOf pd__J_J rfl) rfl (by show 2 * 0 + _ ≤ _; exact Nat.le_of_eq rfl) (hb hby d1_32) (fun _ _ => ⟨rfl, e8, (by decide : 3 + 0 ≤ _), (by decide : 23 + 0 ≤ _)⟩)
  dsimp only [Pt.U, Pt.locs, Pt.cells, Pt.slots] at X9 l9 y9 z9 st9 hQ9
  subst l9 y9 z9
  obtain ⟨rfl, N9q, e9⟩ := hQ9
  have N9 := Fr.app N7 N9q
  obtain ⟨T10, h10, X10, e10, W10, st10⟩ := putF X9 hx hZ hown (host := "") (Or.inl (hw _ (List.mem_of_getElem? (i := 72) rfl))) Via.refl e9 ((((((F_tick_o1.ext E2).keep Kq3 (ninS (Nat.ne_of_lt (Nat.lt_of_lt_of_le (E_o1).lt sz_b2)) nin0)).other W4 (Or.inr (slot_ne (Or.inr (hw _ (List.mem_of_getElem? (i := 73) rfl))) (Or.inr (hw _ (List.mem_of_getElem? (i := 29) rfl))) (by decide) (t := .long) (t' := (.object "java/util/Map")) (by decide) (by decide)))).ext E5).keep Kq6 (ninS (Nat.ne_of_lt (Nat.lt_of_lt_of_le (E_o1).lt sz_b5)) nin0)).other W7 (Or.inr (slot_ne (Or.inr (hw _ (List.mem_of_getElem? (i := 73) rfl))) (Or.inr (hw _ (List.mem_of_getElem? (i := 60) rfl))) (by decide) (t := .long) (t' := (.object "java/util/PriorityQueue")) (by decide) (by decide)))) ((((((E_o1.ext E2).keep Kq3).wr W4).ext E5).keep Kq6).wr W7) (Or.inr ⟨(hw _ (List.mem_of_getElem? (i := 73) rfl)), rfl, hnm⟩) (hw _ (List.mem_of_getElem? (i := 4) rfl)) (ty := .long) (by decide) rfl rfl (g := (mkF m 35 #[.val (.ref o1), .val (.int vt)] [(.long tk), (.ref o1)])) rfl rfl (hb hby d1_35)
  have Fw10 := ((((((F_tick_o1.ext E2).keep Kq3 (ninS (Nat.ne_of_lt (Nat.lt_of_lt_of_le (E_o1).lt sz_b2)) nin0)).other W4 (Or.inr (slot_ne (Or.inr (hw _ (List.mem_of_getElem? (i := 73) rfl))) (Or.inr (hw _ (List.mem_of_getElem? (i := 29) rfl))) (by decide) (t := .long) (t' := (.object "java/util/Map")) (by decide) (by decide)))).ext E5).keep Kq6 (ninS (Nat.ne_of_lt (Nat.lt_of_lt_of_le (E_o1).lt sz_b5)) nin0)).other W7 (Or.inr (slot_ne (Or.inr (hw _ (List.mem_of_getElem? (i := 73) rfl))) (Or.inr (hw _ (List.mem_of_getElem? (i := 60) rfl))) (by decide) (t := .long) (t' := (.object "java/util/PriorityQueue")) (by decide) (by decide)))).same W10
  have N10 := Fr.snoc X10 N9 g_o1
  have K10 : Keep h0 h10 [o1] := K7.wr W10 (Or.inl (List.mem_of_getElem? (i := 0) rfl))
  obtain ⟨T11, X11, e11, st11⟩ := getF X10 hx hZ hown (host := "") (Or.inl (hw _ (List.mem_of_getElem? (i := 72) rfl))) Via.refl e10 Fw10 (g := (mkF m 40 #[.val (.ref o1), .val (.int vt)] [(.ref o1), (.ref o1)])) rfl rfl (hb hby d1_40)
  obtain ⟨T12, X12, e12, st12⟩ := getF X11 hx hZ hown (host := "") (Or.inl (hw _ (List.mem_of_getElem? (i := 72) rfl))) Via.refl e11 Fw10 (g := (mkF m 44 #[.val (.ref o1), .val (.int vt)] [(.ref o1), (.long tk), (.ref o1)])) rfl rfl (hb hby d1_44)
  obtain ⟨T13, h13, X13, e13, W13, st13⟩ := putF X12 hx hZ hown (host := "") (Or.inl (hw _ (List.mem_of_getElem? (i := 75) rfl))) Via.refl e12 (((((((F_lapse_o1.ext E2).keep Kq3 (ninS (Nat.ne_of_lt (Nat.lt_of_lt_of_le (E_o1).lt sz_b2)) nin0)).other W4 (Or.inr (slot_ne (Or.inr (hw _ (List.mem_of_getElem? (i := 76) rfl))) (Or.inr (hw _ (List.mem_of_getElem? (i := 29) rfl))) (by decide) (t := .long) (t' := (.object "java/util/Map")) (by decide) (by decide)))).ext E5).keep Kq6 (ninS (Nat.ne_of_lt (Nat.lt_of_lt_of_le (E_o1).lt sz_b5)) nin0)).other W7 (Or.inr (slot_ne (Or.inr (hw _ (List.mem_of_getElem? (i := 76) rfl))) (Or.inr (hw _ (List.mem_of_getElem? (i := 60) rfl))) (by decide) (t := .long) (t' := (.object "java/util/PriorityQueue")) (by decide) (by decide)))).other W10 (Or.inr (slot_ne (Or.inr (hw _ (List.mem_of_getElem? (i := 76) rfl))) (Or.inr (hw _ (List.mem_of_getElem? (i := 73) rfl))) (by decide) (t := .long) (t' := .long) (by decide) (by decide)))) (((((((E_o1.ext E2).keep Kq3).wr W4).ext E5).keep Kq6).wr W7).wr W10) (Or.inr ⟨(hw _ (List.mem_of_getElem? (i := 76) rfl)), rfl, hnm⟩) (hw _ (List.mem_of_getElem? (i := 4) rfl)) (ty := .long) (by decide) rfl rfl (g := (mkF m 52 #[.val (.ref o1), .val (.int vt)] [(.long lp), (.ref o1)])) rfl rfl (hb hby d1_52)
  have Fw13 := (((((((F_lapse_o1.ext E2).keep Kq3 (ninS (Nat.ne_of_lt (Nat.lt_of_lt_of_le (E_o1).lt sz_b2)) nin0)).other W4 (Or.inr (slot_ne (Or.inr (hw _ (List.mem_of_getElem? (i := 76) rfl))) (Or.inr (hw _ (List.mem_of_getElem? (i := 29) rfl))) (by decide) (t := .long) (t' := (.object "java/util/Map")) (by decide) (by decide)))).ext E5).keep Kq6 (ninS (Nat.ne_of_lt (Nat.lt_of_lt_of_le (E_o1).lt sz_b5)) nin0)).other W7 (Or.inr (slot_ne (Or.inr (hw _ (List.mem_of_getElem? (i := 76) rfl))) (Or.inr (hw _ (List.mem_of_getElem? (i := 60) rfl))) (by decide) (t := .long) (t' := (.object "java/util/PriorityQueue")) (by decide) (by decide)))).other W10 (Or.inr (slot_ne (Or.inr (hw _ (List.mem_of_getElem? (i := 76) rfl))) (Or.inr (hw _ (List.mem_of_getElem? (i := 73) rfl))) (by decide) (t := .long) (t' := .long) (by decide) (by decide)))).same W13
  have N13 := Fr.snoc X13 N10 g_o1
  have K13 : Keep h0 h13 [o1] := K10.wr W13 (Or.inl (List.mem_of_getElem? (i := 0) rfl))
  obtain ⟨fs, hr, hrun, hended, hW, hsame⟩ := X13.leave (v := none) (fun _ => rfl)
  refine ⟨_, _, pre0 _ ?_, hrun, hended, _, _, rfl, ?_, ⟨_, rfl⟩, hW, hsame.mono (by decide) (by decide)⟩
  · show Steps p.tables e below (s₁.setTop (mkF m 0 #[.val (.ref o1), .val (.int vt)] [])) _
    refine XS.aloadN X0.here hx rfl (hb hby d1_0) rfl rfl ?_
    show Steps p.tables e below (s₁.setTop (mkF m 1 #[.val (.ref o1), .val (.int vt)] [(.ref o1)])) _
    refine st1 _ ?_
    show Steps p.tables e below (T1.setTop (mkF m 4 #[.val (.ref o1), .val (.int vt)] [])) _
    refine XS.aloadN X1.here hx rfl (hb hby d1_4) rfl rfl ?_
    show Steps p.tables e below (T1.setTop (mkF m 5 #[.val (.ref o1), .val (.int vt)] [(.ref o1)])) _
    refine st2 _ ?_
    show Steps p.tables e below (T2.setTop (mkF m 8 #[.val (.ref o1), .val (.int vt)] [(.ref b2), (.ref o1)])) _
    refine XS.dup X2.here hx rfl (hb hby d1_8) rfl rfl ?_
    show Steps p.tables e below (T2.setTop (mkF m 9 #[.val (.ref o1), .val (.int vt)] [(.ref b2), (.ref b2), (.ref o1)])) _
    refine st3.trans ?_
    show Steps p.tables e below (T3.setTop (mkF m 12 #[.val (.ref o1), .val (.int vt)] [(.ref b2), (.ref o1)])) _
    refine st4 _ ?_
    show Steps p.tables e below (T4.setTop (mkF m 15 #[.val (.ref o1), .val (.int vt)] [])) _
    refine XS.aloadN X4.here hx rfl (hb hby d1_15) rfl rfl ?_
    show Steps p.tables e below (T4.setTop (mkF m 16 #[.val (.ref o1), .val (.int vt)] [(.ref o1)])) _
    refine st5 _ ?_
    show Steps p.tables e below (T5.setTop (mkF m 19 #[.val (.ref o1), .val (.int vt)] [(.ref b5), (.ref o1)])) _
    refine XS.dup X5.here hx rfl (hb hby d1_19) rfl rfl ?_
    show Steps p.tables e below (T5.setTop (mkF m 20 #[.val (.ref o1), .val (.int vt)] [(.ref b5), (.ref b5), (.ref o1)])) _
    refine st6.trans ?_
    show Steps p.tables e below (T6.setTop (mkF m 23 #[.val (.ref o1), .val (.int vt)] [(.ref b5), (.ref o1)])) _
    refine st7 _ ?_
    show Steps p.tables e below (T7.setTop (mkF m 26 #[.val (.ref o1), .val (.int vt)] [])) _
    refine XS.aloadN X7.here hx rfl (hb hby d1_26) rfl rfl ?_
    show Steps p.tables e below (T7.setTop (mkF m 27 #[.val (.ref o1), .val (.int vt)] [(.ref o1)])) _
    refine st8 _ ?_
    show Steps p.tables e below (T8.setTop (mkF m 30 #[.val (.ref o1), .val (.int vt)] [(.ref w_MILLISECONDS), (.ref o1)])) _
    refine XS.iloadN X8.here hx rfl (hb hby d1_30) rfl ?_
    show Steps p.tables e below (T8.setTop (mkF m 31 #[.val (.ref o1), .val (.int vt)] [(.int vt), (.ref w_MILLISECONDS), (.ref o1)])) _
    refine XS.i2l X8.here hx rfl (hb hby d1_31) rfl ?_
    show Steps p.tables e below (T8.setTop (mkF m 32 #[.val (.ref o1), .val (.int vt)] [(.long (vt.toInt64)), (.ref w_MILLISECONDS), (.ref o1)])) _
    refine st9.trans ?_
    show Steps p.tables e below (T9.setTop (mkF m 35 #[.val (.ref o1), .val (.int vt)] [(.long ((vt.toInt64) * (1000000 : Int64))), (.ref o1)])) _
    rw [htk]
    show Steps p.tables e below (T9.setTop (mkF m 35 #[.val (.ref o1), .val (.int vt)] [(.long tk), (.ref o1)])) _
    refine st10 _ ?_
    show Steps p.tables e below (T10.setTop (mkF m 38 #[.val (.ref o1), .val (.int vt)] [])) _
    refine XS.aloadN X10.here hx rfl (hb hby d1_38) rfl rfl ?_
    show Steps p.tables e below (T10.setTop (mkF m 39 #[.val (.ref o1), .val (.int vt)] [(.ref o1)])) _
    refine XS.aloadN X10.here hx rfl (hb hby d1_39) rfl rfl ?_
    show Steps p.tables e below (T10.setTop (mkF m 40 #[.val (.ref o1), .val (.int vt)] [(.ref o1), (.ref o1)])) _
    refine st11 _ ?_
    show Steps p.tables e below (T11.setTop (mkF m 43 #[.val (.ref o1), .val (.int vt)] [(.long tk), (.ref o1)])) _
    refine XS.aloadN X11.here hx rfl (hb hby d1_43) rfl rfl ?_
    show Steps p.tables e below (T11.setTop (mkF m 44 #[.val (.ref o1), .val (.int vt)] [(.ref o1), (.long tk), (.ref o1)])) _
    refine st12 _ ?_
    show Steps p.tables e below (T12.setTop (mkF m 47 #[.val (.ref o1), .val (.int vt)] [(.long tk), (.long tk), (.ref o1)])) _
    refine X12.ldc2Long hx hown (mvT hZ (hw _ (List.mem_of_getElem? (i := 74) rfl))) (g := (mkF m 47 #[.val (.ref o1), .val (.int vt)] [(.long tk), (.long tk), (.ref o1)])) rfl (hb hby d1_47) _ ?_
    show Steps p.tables e below (T12.setTop (mkF m 50 #[.val (.ref o1), .val (.int vt)] [(.long 4), (.long tk), (.long tk), (.ref o1)])) _
    refine XS.ldiv X12.here hx rfl (hb hby d1_50) rfl (by decide) ?_
    show Steps p.tables e below (T12.setTop (mkF m 51 #[.val (.ref o1), .val (.int vt)] [(.long (tk / (4 : Int64))), (.long tk), (.ref o1)])) _
    refine XS.ladd X12.here hx rfl (hb hby d1_51) rfl ?_
    show Steps p.tables e below (T12.setTop (mkF m 52 #[.val (.ref o1), .val (.int vt)] [(.long (tk + (tk / (4 : Int64)))), (.ref o1)])) _
    rw [hlp]
    show Steps p.tables e below (T12.setTop (mkF m 52 #[.val (.ref o1), .val (.int vt)] [(.long lp), (.ref o1)])) _
    refine st13 _ ?_
    show Steps p.tables e below (T13.setTop (mkF m 55 #[.val (.ref o1), .val (.int vt)] [])) _
    exact X13.returnOut hx Bd.returns (hb hby d1_55) hr
  · show Q1_o1_vt Z o1 vt w_MILLISECONDS tk lp h0 n0 _ T13.heap _
    rw [e13]
    exact ⟨b2, b5, b6c1, kc6kd2, rfl, N13, K13, sz_b2, sz_b5, sz_b6c1, (Nat.ne_of_lt (Nat.lt_of_lt_of_le ((fq3_0.wr W4)).lt s_b5)), (Nat.ne_of_lt (Nat.lt_of_lt_of_le (((fq3_0.wr W4).ext E5)).lt s_b6c1)), (Nat.ne_of_lt (Nat.lt_of_lt_of_le (A5).lt s_b6c1)), ((((((((E_o1.ext E2).keep Kq3).wr W4).ext E5).keep Kq6).wr W7).wr W10).wr W13), (((((Fw4.ext E5).keep Kq6 (ninS (Nat.ne_of_lt (Nat.lt_of_lt_of_le (E_o1).lt sz_b5)) nin0)).other W7 (Or.inr (slot_ne (Or.inr (hw _ (List.mem_of_getElem? (i := 29) rfl))) (Or.inr (hw _ (List.mem_of_getElem? (i := 60) rfl))) (by decide) (t := (.object "java/util/Map")) (t' := (.object "java/util/PriorityQueue")) (by decide) (by decide)))).other W10 (Or.inr (slot_ne (Or.inr (hw _ (List.mem_of_getElem? (i := 29) rfl))) (Or.inr (hw _ (List.mem_of_getElem? (i := 73) rfl))) (by decide) (t := (.object "java/util/Map")) (t' := .long) (by decide) (by decide)))).other W13 (Or.inr (slot_ne (Or.inr (hw _ (List.mem_of_getElem? (i := 29) rfl))) (Or.inr (hw _ (List.mem_of_getElem? (i := 76) rfl))) (by decide) (t := (.object "java/util/Map")) (t' := .long) (by decide) (by decide)))), ((Fw7.other W10 (Or.inr (slot_ne (Or.inr (hw _ (List.mem_of_getElem? (i := 60) rfl))) (Or.inr (hw _ (List.mem_of_getElem? (i := 73) rfl))) (by decide) (t := (.object "java/util/PriorityQueue")) (t' := .long) (by decide) (by decide)))).other W13 (Or.inr (slot_ne (Or.inr (hw _ (List.mem_of_getElem? (i := 60) rfl))) (Or.inr (hw _ (List.mem_of_getElem? (i := 76) rfl))) (by decide) (t := (.object "java/util/PriorityQueue")) (t' := .long) (by decide) (by decide)))), (Fw10.other W13 (Or.inr (slot_ne (Or.inr (hw _ (List.mem_of_getElem? (i := 73) rfl))) (Or.inr (hw _ (List.mem_of_getElem? (i := 76) rfl))) (by decide) (t := .long) (t' := .long) (by decide) (by decide)))), Fw13, ((((((((F_lastHeartbeat_o1.ext E2).keep Kq3 (ninS (Nat.ne_of_lt (Nat.lt_of_lt_of_le (E_o1).lt sz_b2)) nin0)).other W4 (Or.inr (slot_ne (Or.inl (hw _ (List.mem_of_getElem? (i := 129) rfl))) (Or.inr (hw _ (List.mem_of_getElem? (i := 29) rfl))) (by decide) (t := .long) (t' := (.object "java/util/Map")) (by decide) (by decide)))).ext E5).keep Kq6 (ninS (Nat.ne_of_lt (Nat.lt_of_lt_of_le (E_o1).lt sz_b5)) nin0)).other W7 (Or.inr (slot_ne (Or.inl (hw _ (List.mem_of_getElem? (i := 129) rfl))) (Or.inr (hw _ (List.mem_of_getElem? (i := 60) rfl))) (by decide) (t := .long) (t' := (.object "java/util/PriorityQueue")) (by decide) (by decide)))).other W10 (Or.inr (slot_ne (Or.inl (hw _ (List.mem_of_getElem? (i := 129) rfl))) (Or.inr (hw _ (List.mem_of_getElem? (i := 73) rfl))) (by decide) (t := .long) (t' := .long) (by decide) (by decide)))).other W13 (Or.inr (slot_ne (Or.inl (hw _ (List.mem_of_getElem? (i := 129) rfl))) (Or.inr (hw _ (List.mem_of_getElem? (i := 76) rfl))) (by decide) (t := .long) (t' := .long) (by decide) (by decide)))), ((((((((F_countingFrom_o1.ext E2).keep Kq3 (ninS (Nat.ne_of_lt (Nat.lt_of_lt_of_le (E_o1).lt sz_b2)) nin0)).other W4 (Or.inr (slot_ne (Or.inl (hw _ (List.mem_of_getElem? (i := 131) rfl))) (Or.inr (hw _ (List.mem_of_getElem? (i := 29) rfl))) (by decide) (t := .long) (t' := (.object "java/util/Map")) (by decide) (by decide)))).ext E5).keep Kq6 (ninS (Nat.ne_of_lt (Nat.lt_of_lt_of_le (E_o1).lt sz_b5)) nin0)).other W7 (Or.inr (slot_ne (Or.inl (hw _ (List.mem_of_getElem? (i := 131) rfl))) (Or.inr (hw _ (List.mem_of_getElem? (i := 60) rfl))) (by decide) (t := .long) (t' := (.object "java/util/PriorityQueue")) (by decide) (by decide)))).other W10 (Or.inr (slot_ne (Or.inl (hw _ (List.mem_of_getElem? (i := 131) rfl))) (Or.inr (hw _ (List.mem_of_getElem? (i := 73) rfl))) (by decide) (t := .long) (t' := .long) (by decide) (by decide)))).other W13 (Or.inr (slot_ne (Or.inl (hw _ (List.mem_of_getElem? (i := 131) rfl))) (Or.inr (hw _ (List.mem_of_getElem? (i := 76) rfl))) (by decide) (t := .long) (t' := .long) (by decide) (by decide)))), ((((((fq3_0.wr W4).ext E5).keep Kq6).wr W7).wr W10).wr W13), ((((((fq3_1.other W4 (Or.inl (Ne.symm (Nat.ne_of_lt (Nat.lt_of_lt_of_le (E_o1).lt sz_b2))))).ext E5).keep Kq6 (ninS (Nat.ne_of_lt (Nat.lt_of_lt_of_le ((fq3_0.wr W4)).lt s_b5)) nin0)).other W7 (Or.inl (Ne.symm (Nat.ne_of_lt (Nat.lt_of_lt_of_le (E_o1).lt sz_b2))))).other W10 (Or.inl (Ne.symm (Nat.ne_of_lt (Nat.lt_of_lt_of_le (E_o1).lt sz_b2))))).other W13 (Or.inl (Ne.symm (Nat.ne_of_lt (Nat.lt_of_lt_of_le (E_o1).lt sz_b2))))), ((((((fq3_2.other W4 (Or.inl (Ne.symm (Nat.ne_of_lt (Nat.lt_of_lt_of_le (E_o1).lt sz_b2))))).ext E5).keep Kq6 (ninS (Nat.ne_of_lt (Nat.lt_of_lt_of_le ((fq3_0.wr W4)).lt s_b5)) nin0)).other W7 (Or.inl (Ne.symm (Nat.ne_of_lt (Nat.lt_of_lt_of_le (E_o1).lt sz_b2))))).other W10 (Or.inl (Ne.symm (Nat.ne_of_lt (Nat.lt_of_lt_of_le (E_o1).lt sz_b2))))).other W13 (Or.inl (Ne.symm (Nat.ne_of_lt (Nat.lt_of_lt_of_le (E_o1).lt sz_b2))))), ((((((fq3_3.other W4 (Or.inl (Ne.symm (Nat.ne_of_lt (Nat.lt_of_lt_of_le (E_o1).lt sz_b2))))).ext E5).keep Kq6 (ninS (Nat.ne_of_lt (Nat.lt_of_lt_of_le ((fq3_0.wr W4)).lt s_b5)) nin0)).other W7 (Or.inl (Ne.symm (Nat.ne_of_lt (Nat.lt_of_lt_of_le (E_o1).lt sz_b2))))).other W10 (Or.inl (Ne.symm (Nat.ne_of_lt (Nat.lt_of_lt_of_le (E_o1).lt sz_b2))))).other W13 (Or.inl (Ne.symm (Nat.ne_of_lt (Nat.lt_of_lt_of_le (E_o1).lt sz_b2))))), (((fq6_0.wr W7).wr W10).wr W13), (((fq6_1.other W7 (Or.inl (Ne.symm (Nat.ne_of_lt (Nat.lt_of_lt_of_le (E_o1).lt sz_b5))))).other W10 (Or.inl (Ne.symm (Nat.ne_of_lt (Nat.lt_of_lt_of_le (E_o1).lt sz_b5))))).other W13 (Or.inl (Ne.symm (Nat.ne_of_lt (Nat.lt_of_lt_of_le (E_o1).lt sz_b5))))), (((fq6_2.other W7 (Or.inl (Ne.symm (Nat.ne_of_lt (Nat.lt_of_lt_of_le (E_o1).lt sz_b5))))).other W10 (Or.inl (Ne.symm (Nat.ne_of_lt (Nat.lt_of_lt_of_le (E_o1).lt sz_b5))))).other W13 (Or.inl (Ne.symm (Nat.ne_of_lt (Nat.lt_of_lt_of_le (E_o1).lt sz_b5))))), (((fq6_3.other W7 (Or.inl (Ne.symm (Nat.ne_of_lt (Nat.lt_of_lt_of_le (E_o1).lt sz_b5))))).other W10 (Or.inl (Ne.symm (Nat.ne_of_lt (Nat.lt_of_lt_of_le (E_o1).lt sz_b5))))).other W13 (Or.inl (Ne.symm (Nat.ne_of_lt (Nat.lt_of_lt_of_le (E_o1).lt sz_b5))))), (((fq6_4.other W7 (Or.inl (Ne.symm (Nat.ne_of_lt (Nat.lt_of_lt_of_le (E_o1).lt sz_b5))))).other W10 (Or.inl (Ne.symm (Nat.ne_of_lt (Nat.lt_of_lt_of_le (E_o1).lt sz_b5))))).other W13 (Or.inl (Ne.symm (Nat.ne_of_lt (Nat.lt_of_lt_of_le (E_o1).lt sz_b5))))), (((fq6_5.other W7 (Ne.symm (Nat.ne_of_lt (Nat.lt_of_lt_of_le (E_o1).lt sz_b6c1)))).other W10 (Ne.symm (Nat.ne_of_lt (Nat.lt_of_lt_of_le (E_o1).lt sz_b6c1)))).other W13 (Ne.symm (Nat.ne_of_lt (Nat.lt_of_lt_of_le (E_o1).lt sz_b6c1)))), fq6_6⟩
def Q11_o1 (Z : State) (o1 : Addr) (h0 : Heap) (n0 : Nat) (v : Option Value) (h : Heap) (L : List Loc) : Prop := v = none ∧ Fr n0 L ∧ Keep h0 h [o1] ∧ Exa Z h o1 "java/util/ArrayList" ∧ Fld Z h o1 "java/util/AbstractList" "modCount" "I" (.int 0) ∧ Fld Z h o1 "java/util/ArrayList" "elementData" "[Ljava/lang/Object;" .null ∧ Fld Z h o1 "java/util/ArrayList" "size" "I" (.int 0)
set_option maxRecDepth 65536 in
set_option maxHeartbeats 40000000 in
theorem rm11_o1 (l : Launch) (Z : State) (a0 : Array Value) (hw : ∀ d ∈ tables_1, d.before a0 Z = true) (ws : List Jvm.Cond) (o1 : Addr) (h0 : Heap) (n0 : Nat) (Z0 : n0 ≤ h0.size) (E_o1 : Exa Z h0 o1 "java/util/ArrayList") (F_modCount_o1 : Fld Z h0 o1 "java/util/AbstractList" "modCount" "I" (.int 0)) (g_o1 : n0 ≤ o1) (F_elementData_o1 : Fld Z h0 o1 "java/util/ArrayList" "elementData" "[Ljava/lang/Object;" .null) (F_size_o1 : Fld Z h0 o1 "java/util/ArrayList" "size" "I" (.int 0)) :
    MetFree l (⟨"java/util/AbstractList", "<init>", "()V"⟩ : MethodName) (head1 (Jvm.Cond.code (⟨"java/util/AbstractList", "<init>", "()V"⟩ : MethodName) jdk_39_method_1_code 1 none :: ws) ({ frames := 2, cells := 0, slots := 0, locals := 24 } : Room)) (fun a U => a = #[(.ref o1)] ∧ Z.Warmed39 U.vm ∧ U.heap = h0) (fun _ _ _ _ _ => True) (fun _ U o U' => ∃ v L, o = .returned v ∧ Q11_o1 Z o1 h0 n0 v U'.heap L ∧ FrameEnd U o U' L ({ frames := 2, cells := 0, slots := 0, locals := 24 } : Room).cells ({ frames := 2, cells := 0, slots := 0, locals := 24 } : Room).slots) := by
  refine MetFree.of_bodySF (plainFor_of_name pn_11) hisR ?_
  intro p e s m args below meth c s₁ Bd hml0 hP hK
  obtain ⟨rfl, hZ, hh⟩ := hP
  have hx := Bd.exec
  have hby := Bd.bytes
  have hml : c.maxLocals = 1 := hml0
  have hown : s.vm.findClass "java/util/AbstractList" = some m.cls := findClass_of_methodNamed Bd.named
  have hnm := (name_of_methodNamed Bd.named Bd.method).1
  have X0 : Stand p l e ({ frames := 2, cells := 0, slots := 0, locals := 24 } : Room) s m #[(.ref o1)] below meth c s₁ [] 0 0 := Stand.of_body Bd
  have e0 : s₁.heap = h0 := by rw [← hh, Bd.state]; rfl
  have N0 := Fr.nil n0
  have pre0 : ∀ t, Steps p.tables e below (s₁.setTop (mkF m 0 #[.val (.ref o1)] [])) t → Steps p.tables e below (s₁.setTop (entryFrame m #[(.ref o1)] 1)) t := fun t k => castTop (by first | (simp [entryFrame, mkF, argsToLocals, Value.category]; done) | rfl) k
  obtain ⟨_, _, ⟨T1, L1, k1, n1⟩, -, X1, ⟨Lc1, hQ1, l1, y1, z1⟩, st1⟩ := X0.specialBack hx (y := (⟨"java/util/AbstractCollection", "<init>", "()V"⟩ : MethodName)) rfl hown (mvT hZ (hw _ (List.mem_of_getElem? (i := 89) rfl))) (mvT hZ (hw _ (List.mem_of_getElem? (i := 47) rfl))) (mvT hZ (hw _ (List.mem_of_getElem? (i := 51) rfl))) (by decide) (backOf (W := 0) (rm8_o1 l Z a0 hw [] o1 h0 n0 Z0) hZ (hw _ (List.mem_of_getElem? (i := 51) rfl)) (hw _ (List.mem_of_getElem? (i := 50) rfl)) (by decide) (by decide)) (g := (mkF m 1 #[.val (.ref o1)] [(.ref o1)])) rfl (by rw [hml]; rfl) (Steps.refl _) (a := o1) (argsL := []) (rest := []) (lenOf pd___V rfl) rfl (by show 2 * 0 + _ ≤ _; exact Nat.le_of_eq rfl) (hb hby d11_1) (fun _ _ => ⟨rfl, e0, (by decide : 0 + 0 ≤ _), (by decide : 0 + 0 ≤ _)⟩)
  dsimp only [Pt.U, Pt.locs, Pt.cells, Pt.slots] at X1 l1 y1 z1 st1 hQ1
  subst l1 y1 z1
  obtain ⟨rfl, N1q, e1⟩ := hQ1
  have N1 := Fr.app N0 N1q
  obtain ⟨T2, h2, X2, e2, W2, st2⟩ := putF X1 hx hZ hown (host := "") (Or.inl (hw _ (List.mem_of_getElem? (i := 91) rfl))) Via.refl e1 F_modCount_o1 E_o1 (Or.inl (hw _ (List.mem_of_getElem? (i := 92) rfl))) (hw _ (List.mem_of_getElem? (i := 78) rfl)) (ty := .int) (by decide) rfl rfl (g := (mkF m 6 #[.val (.ref o1)] [(.int 0), (.ref o1)])) rfl rfl (hb hby d11_6)
  have Fw2 := F_modCount_o1.same W2
  have N2 := Fr.snoc X2 N1 g_o1
  have K2 : Keep h0 h2 [o1] := (Keep.refl h0 [o1]).wr W2 (Or.inl (List.mem_of_getElem? (i := 0) rfl))
  obtain ⟨fs, hr, hrun, hended, hW, hsame⟩ := X2.leave (v := none) (fun _ => rfl)
  refine ⟨_, _, pre0 _ ?_, hrun, hended, _, _, rfl, ?_, ⟨_, rfl⟩, hW, hsame.mono (by decide) (by decide)⟩
  · show Steps p.tables e below (s₁.setTop (mkF m 0 #[.val (.ref o1)] [])) _
    refine XS.aloadN X0.here hx rfl (hb hby d11_0) rfl rfl ?_
    show Steps p.tables e below (s₁.setTop (mkF m 1 #[.val (.ref o1)] [(.ref o1)])) _
    refine st1.trans ?_
    show Steps p.tables e below (T1.setTop (mkF m 4 #[.val (.ref o1)] [])) _
    refine XS.aloadN X1.here hx rfl (hb hby d11_4) rfl rfl ?_
    show Steps p.tables e below (T1.setTop (mkF m 5 #[.val (.ref o1)] [(.ref o1)])) _
    refine XS.iconst X1.here hx rfl (hb hby d11_5) ?_
    show Steps p.tables e below (T1.setTop (mkF m 6 #[.val (.ref o1)] [(.int 0), (.ref o1)])) _
    refine st2 _ ?_
    show Steps p.tables e below (T2.setTop (mkF m 9 #[.val (.ref o1)] [])) _
    exact X2.returnOut hx Bd.returns (hb hby d11_9) hr
  · show Q11_o1 Z o1 h0 n0 _ T2.heap _
    rw [e2]
    exact ⟨rfl, N2, K2, (E_o1.wr W2), Fw2, (F_elementData_o1.other W2 (Or.inr (slot_ne (Or.inl (hw _ (List.mem_of_getElem? (i := 95) rfl))) (Or.inl (hw _ (List.mem_of_getElem? (i := 92) rfl))) (by decide) (t := (.array (.object "java/lang/Object"))) (t' := .int) (by decide) (by decide)))), (F_size_o1.other W2 (Or.inr (slot_ne (Or.inl (hw _ (List.mem_of_getElem? (i := 169) rfl))) (Or.inl (hw _ (List.mem_of_getElem? (i := 92) rfl))) (by decide) (t := .int) (t' := .int) (by decide) (by decide))))⟩
def Q10_o1 (Z : State) (o1 : Addr) (w_DEFAULTCAPACITY_EMPTY_ELEMENTDATA : Addr) (h0 : Heap) (n0 : Nat) (v : Option Value) (h : Heap) (L : List Loc) : Prop := v = none ∧ Fr n0 L ∧ Keep h0 h [o1] ∧ Exa Z h o1 "java/util/ArrayList" ∧ Fld Z h o1 "java/util/AbstractList" "modCount" "I" (.int 0) ∧ Fld Z h o1 "java/util/ArrayList" "elementData" "[Ljava/lang/Object;" (.ref w_DEFAULTCAPACITY_EMPTY_ELEMENTDATA) ∧ Fld Z h o1 "java/util/ArrayList" "size" "I" (.int 0)
set_option maxRecDepth 65536 in
set_option maxHeartbeats 40000000 in
theorem rm10_o1 (l : Launch) (Z : State) (a0 : Array Value) (hw : ∀ d ∈ tables_1, d.before a0 Z = true) (ws : List Jvm.Cond) (o1 : Addr) (w_DEFAULTCAPACITY_EMPTY_ELEMENTDATA : Addr) (h0 : Heap) (n0 : Nat) (Z0 : n0 ≤ h0.size) (E_o1 : Exa Z h0 o1 "java/util/ArrayList") (F_modCount_o1 : Fld Z h0 o1 "java/util/AbstractList" "modCount" "I" (.int 0)) (g_o1 : n0 ≤ o1) (F_elementData_o1 : Fld Z h0 o1 "java/util/ArrayList" "elementData" "[Ljava/lang/Object;" .null) (F_size_o1 : Fld Z h0 o1 "java/util/ArrayList" "size" "I" (.int 0)) (S_DEFAULTCAPACITY_EMPTY_ELEMENTDATA : Sta Z h0 "java/util/ArrayList" "DEFAULTCAPACITY_EMPTY_ELEMENTDATA" "[Ljava/lang/Object;" (.ref w_DEFAULTCAPACITY_EMPTY_ELEMENTDATA)) :
    MetFree l (⟨"java/util/ArrayList", "<init>", "()V"⟩ : MethodName) (head1 (Jvm.Cond.code (⟨"java/util/ArrayList", "<init>", "()V"⟩ : MethodName) jdk_38_method_2_code 1 none :: ws) ({ frames := 3, cells := 0, slots := 0, locals := 36 } : Room)) (fun a U => a = #[(.ref o1)] ∧ Z.Warmed39 U.vm ∧ U.heap = h0) (fun _ _ _ _ _ => True) (fun _ U o U' => ∃ v L, o = .returned v ∧ Q10_o1 Z o1 w_DEFAULTCAPACITY_EMPTY_ELEMENTDATA h0 n0 v U'.heap L ∧ FrameEnd U o U' L ({ frames := 3, cells := 0, slots := 0, locals := 36 } : Room).cells ({ frames := 3, cells := 0, slots := 0, locals := 36 } : Room).slots) := by
  refine MetFree.of_bodySF (plainFor_of_name pn_10) hisR ?_
  intro p e s m args below meth c s₁ Bd hml0 hP hK
  obtain ⟨rfl, hZ, hh⟩ := hP
  have hx := Bd.exec
  have hby := Bd.bytes
  have hml : c.maxLocals = 1 := hml0
  have hown : s.vm.findClass "java/util/ArrayList" = some m.cls := findClass_of_methodNamed Bd.named
  have hnm := (name_of_methodNamed Bd.named Bd.method).1
  have X0 : Stand p l e ({ frames := 3, cells := 0, slots := 0, locals := 36 } : Room) s m #[(.ref o1)] below meth c s₁ [] 0 0 := Stand.of_body Bd
  have e0 : s₁.heap = h0 := by rw [← hh, Bd.state]; rfl
  have N0 := Fr.nil n0
  have pre0 : ∀ t, Steps p.tables e below (s₁.setTop (mkF m 0 #[.val (.ref o1)] [])) t → Steps p.tables e below (s₁.setTop (entryFrame m #[(.ref o1)] 1)) t := fun t k => castTop (by first | (simp [entryFrame, mkF, argsToLocals, Value.category]; done) | rfl) k
  obtain ⟨_, _, ⟨T1, L1, k1, n1⟩, -, X1, ⟨Lc1, hQ1, l1, y1, z1⟩, st1⟩ := X0.specialBack hx (y := (⟨"java/util/AbstractList", "<init>", "()V"⟩ : MethodName)) rfl hown (mvT hZ (hw _ (List.mem_of_getElem? (i := 83) rfl))) (mvT hZ (hw _ (List.mem_of_getElem? (i := 84) rfl))) (mvT hZ (hw _ (List.mem_of_getElem? (i := 88) rfl))) (by decide) (backOf (W := 0) (rm11_o1 l Z a0 hw [] o1 h0 n0 Z0 E_o1 F_modCount_o1 g_o1 F_elementData_o1 F_size_o1) hZ (hw _ (List.mem_of_getElem? (i := 88) rfl)) (hw _ (List.mem_of_getElem? (i := 87) rfl)) (by decide) (by decide)) (g := (mkF m 1 #[.val (.ref o1)] [(.ref o1)])) rfl (by rw [hml]; rfl) (Steps.refl _) (a := o1) (argsL := []) (rest := []) (lenOf pd___V rfl) rfl (by show 2 * 0 + _ ≤ _; exact Nat.le_of_eq rfl) (hb hby d10_1) (fun _ _ => ⟨rfl, e0, (by decide : 0 + 0 ≤ _), (by decide : 0 + 0 ≤ _)⟩)
  dsimp only [Pt.U, Pt.locs, Pt.cells, Pt.slots] at X1 l1 y1 z1 st1 hQ1
  subst l1 y1 z1
  obtain ⟨rfl, N1q, Kq1, fq1_0, fq1_1, fq1_2, fq1_3⟩ := hQ1
  have N1 := Fr.app N0 N1q
  have K1 : Keep h0 T1.heap [o1] := (Keep.refl h0 [o1]).trans Kq1 (allS (Or.inl (List.mem_of_getElem? (i := 0) rfl)) all0)
  obtain ⟨T2, X2, e2, st2⟩ := getS2 X1 hx hZ hown (host := "") (Or.inl (hw _ (List.mem_of_getElem? (i := 93) rfl))) Via.refl rfl (own_sta_keep1 S_DEFAULTCAPACITY_EMPTY_ELEMENTDATA Kq1 E_o1) (g := (mkF m 5 #[.val (.ref o1)] [(.ref o1)])) rfl (hb hby d10_5)
  obtain ⟨T3, h3, X3, e3, W3, st3⟩ := putF X2 hx hZ hown (host := "") (Or.inl (hw _ (List.mem_of_getElem? (i := 94) rfl))) Via.refl e2 fq1_2 fq1_0 (Or.inl (hw _ (List.mem_of_getElem? (i := 95) rfl))) (hw _ (List.mem_of_getElem? (i := 78) rfl)) (ty := (.array (.object "java/lang/Object"))) (by decide) rfl rfl (g := (mkF m 8 #[.val (.ref o1)] [(.ref w_DEFAULTCAPACITY_EMPTY_ELEMENTDATA), (.ref o1)])) rfl rfl (hb hby d10_8)
  have Fw3 := fq1_2.same W3
  have N3 := Fr.snoc X3 N1 g_o1
  have K3 : Keep h0 h3 [o1] := K1.wr W3 (Or.inl (List.mem_of_getElem? (i := 0) rfl))
  obtain ⟨fs, hr, hrun, hended, hW, hsame⟩ := X3.leave (v := none) (fun _ => rfl)
  refine ⟨_, _, pre0 _ ?_, hrun, hended, _, _, rfl, ?_, ⟨_, rfl⟩, hW, hsame.mono (by decide) (by decide)⟩
  · show Steps p.tables e below (s₁.setTop (mkF m 0 #[.val (.ref o1)] [])) _
    refine XS.aloadN X0.here hx rfl (hb hby d10_0) rfl rfl ?_
    show Steps p.tables e below (s₁.setTop (mkF m 1 #[.val (.ref o1)] [(.ref o1)])) _
    refine st1.trans ?_
    show Steps p.tables e below (T1.setTop (mkF m 4 #[.val (.ref o1)] [])) _
    refine XS.aloadN X1.here hx rfl (hb hby d10_4) rfl rfl ?_
    show Steps p.tables e below (T1.setTop (mkF m 5 #[.val (.ref o1)] [(.ref o1)])) _
    refine st2 _ ?_
    show Steps p.tables e below (T2.setTop (mkF m 8 #[.val (.ref o1)] [(.ref w_DEFAULTCAPACITY_EMPTY_ELEMENTDATA), (.ref o1)])) _
    refine st3 _ ?_
    show Steps p.tables e below (T3.setTop (mkF m 11 #[.val (.ref o1)] [])) _
    exact X3.returnOut hx Bd.returns (hb hby d10_11) hr
  · show Q10_o1 Z o1 w_DEFAULTCAPACITY_EMPTY_ELEMENTDATA h0 n0 _ T3.heap _
    rw [e3]
    exact ⟨rfl, N3, K3, (fq1_0.wr W3), (fq1_1.other W3 (Or.inr (slot_ne (Or.inl (hw _ (List.mem_of_getElem? (i := 92) rfl))) (Or.inl (hw _ (List.mem_of_getElem? (i := 95) rfl))) (by decide) (t := .int) (t' := (.array (.object "java/lang/Object"))) (by decide) (by decide)))), Fw3, (fq1_3.other W3 (Or.inr (slot_ne (Or.inl (hw _ (List.mem_of_getElem? (i := 169) rfl))) (Or.inl (hw _ (List.mem_of_getElem? (i := 95) rfl))) (by decide) (t := .int) (t' := (.array (.object "java/lang/Object"))) (by decide) (by decide))))⟩
def Q14_o1 (Z : State) (o1 : Addr) (h0 : Heap) (n0 : Nat) (v : Option Value) (h : Heap) (L : List Loc) : Prop := v = none ∧ Fr n0 L ∧ Keep h0 h [o1] ∧ Fld Z h o1 "java/util/HashMap" "modCount" "I" (.int 1) ∧ Exa Z h o1 "java/util/HashMap" ∧ Fld Z h o1 "java/util/HashMap" "table" "[Ljava/util/HashMap$Node;" .null ∧ Fld Z h o1 "java/util/HashMap" "loadFactor" "F" (.float (1061158912 : UInt32))
set_option maxRecDepth 65536 in
set_option maxHeartbeats 40000000 in
theorem rm14_o1 (l : Launch) (Z : State) (a0 : Array Value) (hw : ∀ d ∈ tables_1, d.before a0 Z = true) (ws : List Jvm.Cond) (o1 : Addr) (h0 : Heap) (n0 : Nat) (Z0 : n0 ≤ h0.size) (F_modCount_o1 : Fld Z h0 o1 "java/util/HashMap" "modCount" "I" (.int 0)) (E_o1 : Exa Z h0 o1 "java/util/HashMap") (g_o1 : n0 ≤ o1) (F_table_o1 : Fld Z h0 o1 "java/util/HashMap" "table" "[Ljava/util/HashMap$Node;" .null) (F_loadFactor_o1 : Fld Z h0 o1 "java/util/HashMap" "loadFactor" "F" (.float (1061158912 : UInt32))) :
    MetFree l (⟨"java/util/HashMap", "clear", "()V"⟩ : MethodName) (head1 (Jvm.Cond.code (⟨"java/util/HashMap", "clear", "()V"⟩ : MethodName) jdk_69_method_22_code 3 none :: ws) ({ frames := 0, cells := 0, slots := 0, locals := 0 } : Room)) (fun a U => a = #[(.ref o1)] ∧ Z.Warmed39 U.vm ∧ U.heap = h0) (fun _ _ _ _ _ => True) (fun _ U o U' => ∃ v L, o = .returned v ∧ Q14_o1 Z o1 h0 n0 v U'.heap L ∧ FrameEnd U o U' L ({ frames := 0, cells := 0, slots := 0, locals := 0 } : Room).cells ({ frames := 0, cells := 0, slots := 0, locals := 0 } : Room).slots) := by
  refine MetFree.of_bodySF (plainFor_of_name pn_14) hisR ?_
  intro p e s m args below meth c s₁ Bd hml0 hP hK
  obtain ⟨rfl, hZ, hh⟩ := hP
  have hx := Bd.exec
  have hby := Bd.bytes
  have hml : c.maxLocals = 3 := hml0
  have hown : s.vm.findClass "java/util/HashMap" = some m.cls := findClass_of_methodNamed Bd.named
  have hnm := (name_of_methodNamed Bd.named Bd.method).1
  have X0 : Stand p l e ({ frames := 0, cells := 0, slots := 0, locals := 0 } : Room) s m #[(.ref o1)] below meth c s₁ [] 0 0 := Stand.of_body Bd
  have e0 : s₁.heap = h0 := by rw [← hh, Bd.state]; rfl
  have N0 := Fr.nil n0
  have pre0 : ∀ t, Steps p.tables e below (s₁.setTop (mkF m 0 #[.val (.ref o1), .unset, .unset] [])) t → Steps p.tables e below (s₁.setTop (entryFrame m #[(.ref o1)] 3)) t := fun t k => castTop (by first | (simp [entryFrame, mkF, argsToLocals, Value.category]; done) | rfl) k
  obtain ⟨T1, X1, e1, st1⟩ := getF X0 hx hZ hown (host := "") (Or.inl (hw _ (List.mem_of_getElem? (i := 115) rfl))) Via.refl e0 F_modCount_o1 (g := (mkF m 2 #[.val (.ref o1), .unset, .unset] [(.ref o1), (.ref o1)])) rfl rfl (hb hby d14_2)
  obtain ⟨T2, h2, X2, e2, W2, st2⟩ := putF X1 hx hZ hown (host := "") (Or.inl (hw _ (List.mem_of_getElem? (i := 115) rfl))) Via.refl e1 F_modCount_o1 E_o1 (Or.inl (hw _ (List.mem_of_getElem? (i := 116) rfl))) (hw _ (List.mem_of_getElem? (i := 13) rfl)) (ty := .int) (by decide) rfl rfl (g := (mkF m 7 #[.val (.ref o1), .unset, .unset] [(.int 1), (.ref o1)])) rfl rfl (hb hby d14_7)
  have Fw2 := F_modCount_o1.same W2
  have N2 := Fr.snoc X2 N0 g_o1
  have K2 : Keep h0 h2 [o1] := (Keep.refl h0 [o1]).wr W2 (Or.inl (List.mem_of_getElem? (i := 0) rfl))
  obtain ⟨T3, X3, e3, st3⟩ := getF X2 hx hZ hown (host := "") (Or.inl (hw _ (List.mem_of_getElem? (i := 117) rfl))) Via.refl e2 (F_table_o1.other W2 (Or.inr (slot_ne (Or.inl (hw _ (List.mem_of_getElem? (i := 118) rfl))) (Or.inl (hw _ (List.mem_of_getElem? (i := 116) rfl))) (by decide) (t := (.array (.object "java/util/HashMap$Node"))) (t' := .int) (by decide) (by decide)))) (g := (mkF m 11 #[.val (.ref o1), .unset, .unset] [(.ref o1)])) rfl rfl (hb hby d14_11)
  obtain ⟨fs, hr, hrun, hended, hW, hsame⟩ := X3.leave (v := none) (fun _ => rfl)
  refine ⟨_, _, pre0 _ ?_, hrun, hended, _, _, rfl, ?_, ⟨_, rfl⟩, hW, hsame.mono (by decide) (by decide)⟩
  · show Steps p.tables e below (s₁.setTop (mkF m 0 #[.val (.ref o1), .unset, .unset] [])) _
    refine XS.aloadN X0.here hx rfl (hb hby d14_0) rfl rfl ?_
    show Steps p.tables e below (s₁.setTop (mkF m 1 #[.val (.ref o1), .unset, .unset] [(.ref o1)])) _
    refine XS.dup X0.here hx rfl (hb hby d14_1) rfl rfl ?_
    show Steps p.tables e below (s₁.setTop (mkF m 2 #[.val (.ref o1), .unset, .unset] [(.ref o1), (.ref o1)])) _
    refine st1 _ ?_
    show Steps p.tables e below (T1.setTop (mkF m 5 #[.val (.ref o1), .unset, .unset] [(.int 0), (.ref o1)])) _
    refine XS.iconst X1.here hx rfl (hb hby d14_5) ?_
    show Steps p.tables e below (T1.setTop (mkF m 6 #[.val (.ref o1), .unset, .unset] [(.int 1), (.int 0), (.ref o1)])) _
    refine XS.iadd X1.here hx rfl (hb hby d14_6) rfl ?_
    show Steps p.tables e below (T1.setTop (mkF m 7 #[.val (.ref o1), .unset, .unset] [(.int ((0 : Int32) + (1 : Int32))), (.ref o1)])) _
    rw [(by decide : ((0 : Int32) + (1 : Int32)) = (1 : Int32))]
    show Steps p.tables e below (T1.setTop (mkF m 7 #[.val (.ref o1), .unset, .unset] [(.int 1), (.ref o1)])) _
    refine st2 _ ?_
    show Steps p.tables e below (T2.setTop (mkF m 10 #[.val (.ref o1), .unset, .unset] [])) _
    refine XS.aloadN X2.here hx rfl (hb hby d14_10) rfl rfl ?_
    show Steps p.tables e below (T2.setTop (mkF m 11 #[.val (.ref o1), .unset, .unset] [(.ref o1)])) _
    refine st3 _ ?_
    show Steps p.tables e below (T3.setTop (mkF m 14 #[.val (.ref o1), .unset, .unset] [.null])) _
    refine XS.dup X3.here hx rfl (hb hby d14_14) rfl rfl ?_
    show Steps p.tables e below (T3.setTop (mkF m 15 #[.val (.ref o1), .unset, .unset] [.null, .null])) _
    refine XS.astoreN X3.here hx rfl (hb hby d14_15) rfl rfl (l' := #[.val (.ref o1), .val .null, .unset]) rfl ?_
    show Steps p.tables e below (T3.setTop (mkF m 16 #[.val (.ref o1), .val .null, .unset] [.null])) _
    refine XS.ifnullYes X3.here hx rfl (pc0 := 16) (pc' := 49) rfl (hb hby d14_16) rfl (by decide) (by decide) ?_
    show Steps p.tables e below (T3.setTop (mkF m 49 #[.val (.ref o1), .val .null, .unset] [])) _
    exact X3.returnOut hx Bd.returns (hb hby d14_49) hr
  · show Q14_o1 Z o1 h0 n0 _ T3.heap _
    rw [e3]
    exact ⟨rfl, N2, K2, Fw2, (E_o1.wr W2), (F_table_o1.other W2 (Or.inr (slot_ne (Or.inl (hw _ (List.mem_of_getElem? (i := 118) rfl))) (Or.inl (hw _ (List.mem_of_getElem? (i := 116) rfl))) (by decide) (t := (.array (.object "java/util/HashMap$Node"))) (t' := .int) (by decide) (by decide)))), (F_loadFactor_o1.other W2 (Or.inr (slot_ne (Or.inr (hw _ (List.mem_of_getElem? (i := 27) rfl))) (Or.inl (hw _ (List.mem_of_getElem? (i := 116) rfl))) (by decide) (t := .float) (t' := .int) (by decide) (by decide))))⟩
def Q15_o1 (Z : State) (o1 : Addr) (o2 : Addr) (h0 : Heap) (n0 : Nat) (v : Option Value) (h : Heap) (L : List Loc) : Prop := v = none ∧ Fr n0 L ∧ Keep h0 h [o1] ∧ Fld Z h o1 "java/util/PriorityQueue" "modCount" "I" (.int 1) ∧ Exa Z h o1 "java/util/PriorityQueue" ∧ Fld Z h o1 "java/util/PriorityQueue" "queue" "[Ljava/lang/Object;" (.ref o2) ∧ Fld Z h o1 "java/util/PriorityQueue" "size" "I" (.int 0) ∧ Fld Z h o1 "java/util/PriorityQueue" "comparator" "Ljava/util/Comparator;" .null
set_option maxRecDepth 65536 in
set_option maxHeartbeats 40000000 in
theorem rm15_o1 (l : Launch) (Z : State) (a0 : Array Value) (hw : ∀ d ∈ tables_1, d.before a0 Z = true) (ws : List Jvm.Cond) (o1 : Addr) (o2 : Addr) (h0 : Heap) (n0 : Nat) (Z0 : n0 ≤ h0.size) (F_modCount_o1 : Fld Z h0 o1 "java/util/PriorityQueue" "modCount" "I" (.int 0)) (E_o1 : Exa Z h0 o1 "java/util/PriorityQueue") (g_o1 : n0 ≤ o1) (F_queue_o1 : Fld Z h0 o1 "java/util/PriorityQueue" "queue" "[Ljava/lang/Object;" (.ref o2)) (F_size_o1 : Fld Z h0 o1 "java/util/PriorityQueue" "size" "I" (.int 0)) (F_comparator_o1 : Fld Z h0 o1 "java/util/PriorityQueue" "comparator" "Ljava/util/Comparator;" .null) :
    MetFree l (⟨"java/util/PriorityQueue", "clear", "()V"⟩ : MethodName) (head1 (Jvm.Cond.code (⟨"java/util/PriorityQueue", "clear", "()V"⟩ : MethodName) jdk_2655_method_24_code 4 none :: ws) ({ frames := 0, cells := 0, slots := 0, locals := 0 } : Room)) (fun a U => a = #[(.ref o1)] ∧ Z.Warmed39 U.vm ∧ U.heap = h0) (fun _ _ _ _ _ => True) (fun _ U o U' => ∃ v L, o = .returned v ∧ Q15_o1 Z o1 o2 h0 n0 v U'.heap L ∧ FrameEnd U o U' L ({ frames := 0, cells := 0, slots := 0, locals := 0 } : Room).cells ({ frames := 0, cells := 0, slots := 0, locals := 0 } : Room).slots) := by
  refine MetFree.of_bodySF (plainFor_of_name pn_15) hisR ?_
  intro p e s m args below meth c s₁ Bd hml0 hP hK
  obtain ⟨rfl, hZ, hh⟩ := hP
  have hx := Bd.exec
  have hby := Bd.bytes
  have hml : c.maxLocals = 4 := hml0
  have hown : s.vm.findClass "java/util/PriorityQueue" = some m.cls := findClass_of_methodNamed Bd.named
  have hnm := (name_of_methodNamed Bd.named Bd.method).1
  have X0 : Stand p l e ({ frames := 0, cells := 0, slots := 0, locals := 0 } : Room) s m #[(.ref o1)] below meth c s₁ [] 0 0 := Stand.of_body Bd
  have e0 : s₁.heap = h0 := by rw [← hh, Bd.state]; rfl
  have N0 := Fr.nil n0
  have pre0 : ∀ t, Steps p.tables e below (s₁.setTop (mkF m 0 #[.val (.ref o1), .unset, .unset, .unset] [])) t → Steps p.tables e below (s₁.setTop (entryFrame m #[(.ref o1)] 4)) t := fun t k => castTop (by first | (simp [entryFrame, mkF, argsToLocals, Value.category]; done) | rfl) k
  obtain ⟨T1, X1, e1, st1⟩ := getF X0 hx hZ hown (host := "") (Or.inl (hw _ (List.mem_of_getElem? (i := 124) rfl))) Via.refl e0 F_modCount_o1 (g := (mkF m 2 #[.val (.ref o1), .unset, .unset, .unset] [(.ref o1), (.ref o1)])) rfl rfl (hb hby d15_2)
  obtain ⟨T2, h2, X2, e2, W2, st2⟩ := putF X1 hx hZ hown (host := "") (Or.inl (hw _ (List.mem_of_getElem? (i := 124) rfl))) Via.refl e1 F_modCount_o1 E_o1 (Or.inl (hw _ (List.mem_of_getElem? (i := 125) rfl))) (hw _ (List.mem_of_getElem? (i := 31) rfl)) (ty := .int) (by decide) rfl rfl (g := (mkF m 7 #[.val (.ref o1), .unset, .unset, .unset] [(.int 1), (.ref o1)])) rfl rfl (hb hby d15_7)
  have Fw2 := F_modCount_o1.same W2
  have N2 := Fr.snoc X2 N0 g_o1
  have K2 : Keep h0 h2 [o1] := (Keep.refl h0 [o1]).wr W2 (Or.inl (List.mem_of_getElem? (i := 0) rfl))
  obtain ⟨T3, X3, e3, st3⟩ := getF X2 hx hZ hown (host := "") (Or.inl (hw _ (List.mem_of_getElem? (i := 55) rfl))) Via.refl e2 (F_queue_o1.other W2 (Or.inr (slot_ne (Or.inl (hw _ (List.mem_of_getElem? (i := 56) rfl))) (Or.inl (hw _ (List.mem_of_getElem? (i := 125) rfl))) (by decide) (t := (.array (.object "java/lang/Object"))) (t' := .int) (by decide) (by decide)))) (g := (mkF m 11 #[.val (.ref o1), .unset, .unset, .unset] [(.ref o1)])) rfl rfl (hb hby d15_11)
  obtain ⟨T4, X4, e4, st4⟩ := getF X3 hx hZ hown (host := "") (Or.inl (hw _ (List.mem_of_getElem? (i := 126) rfl))) Via.refl e3 (F_size_o1.other W2 (Or.inr (slot_ne (Or.inl (hw _ (List.mem_of_getElem? (i := 127) rfl))) (Or.inl (hw _ (List.mem_of_getElem? (i := 125) rfl))) (by decide) (t := .int) (t' := .int) (by decide) (by decide)))) (g := (mkF m 18 #[.val (.ref o1), .val (.ref o2), .val (.int 0), .unset] [(.ref o1)])) rfl rfl (hb hby d15_18)
  obtain ⟨T5, h5, X5, e5, W5, st5⟩ := putF X4 hx hZ hown (host := "") (Or.inl (hw _ (List.mem_of_getElem? (i := 126) rfl))) Via.refl e4 (F_size_o1.other W2 (Or.inr (slot_ne (Or.inl (hw _ (List.mem_of_getElem? (i := 127) rfl))) (Or.inl (hw _ (List.mem_of_getElem? (i := 125) rfl))) (by decide) (t := .int) (t' := .int) (by decide) (by decide)))) (E_o1.wr W2) (Or.inl (hw _ (List.mem_of_getElem? (i := 127) rfl))) (hw _ (List.mem_of_getElem? (i := 31) rfl)) (ty := .int) (by decide) rfl rfl (g := (mkF m 39 #[.val (.ref o1), .val (.ref o2), .val (.int 0), .val (.int 0)] [(.int 0), (.ref o1)])) rfl rfl (hb hby d15_39)
  have Fw5 := (F_size_o1.other W2 (Or.inr (slot_ne (Or.inl (hw _ (List.mem_of_getElem? (i := 127) rfl))) (Or.inl (hw _ (List.mem_of_getElem? (i := 125) rfl))) (by decide) (t := .int) (t' := .int) (by decide) (by decide)))).same W5
  have N5 := Fr.snoc X5 N2 g_o1
  have K5 : Keep h0 h5 [o1] := K2.wr W5 (Or.inl (List.mem_of_getElem? (i := 0) rfl))
  obtain ⟨fs, hr, hrun, hended, hW, hsame⟩ := X5.leave (v := none) (fun _ => rfl)
  refine ⟨_, _, pre0 _ ?_, hrun, hended, _, _, rfl, ?_, ⟨_, rfl⟩, hW, hsame.mono (by decide) (by decide)⟩
  · show Steps p.tables e below (s₁.setTop (mkF m 0 #[.val (.ref o1), .unset, .unset, .unset] [])) _
    refine XS.aloadN X0.here hx rfl (hb hby d15_0) rfl rfl ?_
    show Steps p.tables e below (s₁.setTop (mkF m 1 #[.val (.ref o1), .unset, .unset, .unset] [(.ref o1)])) _
    refine XS.dup X0.here hx rfl (hb hby d15_1) rfl rfl ?_
    show Steps p.tables e below (s₁.setTop (mkF m 2 #[.val (.ref o1), .unset, .unset, .unset] [(.ref o1), (.ref o1)])) _
    refine st1 _ ?_
    show Steps p.tables e below (T1.setTop (mkF m 5 #[.val (.ref o1), .unset, .unset, .unset] [(.int 0), (.ref o1)])) _
    refine XS.iconst X1.here hx rfl (hb hby d15_5) ?_
    show Steps p.tables e below (T1.setTop (mkF m 6 #[.val (.ref o1), .unset, .unset, .unset] [(.int 1), (.int 0), (.ref o1)])) _
    refine XS.iadd X1.here hx rfl (hb hby d15_6) rfl ?_
    show Steps p.tables e below (T1.setTop (mkF m 7 #[.val (.ref o1), .unset, .unset, .unset] [(.int ((0 : Int32) + (1 : Int32))), (.ref o1)])) _
    rw [(by decide : ((0 : Int32) + (1 : Int32)) = (1 : Int32))]
    show Steps p.tables e below (T1.setTop (mkF m 7 #[.val (.ref o1), .unset, .unset, .unset] [(.int 1), (.ref o1)])) _
    refine st2 _ ?_
    show Steps p.tables e below (T2.setTop (mkF m 10 #[.val (.ref o1), .unset, .unset, .unset] [])) _
    refine XS.aloadN X2.here hx rfl (hb hby d15_10) rfl rfl ?_
    show Steps p.tables e below (T2.setTop (mkF m 11 #[.val (.ref o1), .unset, .unset, .unset] [(.ref o1)])) _
    refine st3 _ ?_
    show Steps p.tables e below (T3.setTop (mkF m 14 #[.val (.ref o1), .unset, .unset, .unset] [(.ref o2)])) _
    refine XS.astoreN X3.here hx rfl (hb hby d15_14) rfl rfl (l' := #[.val (.ref o1), .val (.ref o2), .unset, .unset]) rfl ?_
    show Steps p.tables e below (T3.setTop (mkF m 15 #[.val (.ref o1), .val (.ref o2), .unset, .unset] [])) _
    refine XS.iconst X3.here hx rfl (hb hby d15_15) ?_
    show Steps p.tables e below (T3.setTop (mkF m 16 #[.val (.ref o1), .val (.ref o2), .unset, .unset] [(.int 0)])) _
    refine XS.istoreN X3.here hx rfl (hb hby d15_16) rfl (l' := #[.val (.ref o1), .val (.ref o2), .val (.int 0), .unset]) rfl ?_
    show Steps p.tables e below (T3.setTop (mkF m 17 #[.val (.ref o1), .val (.ref o2), .val (.int 0), .unset] [])) _
    refine XS.aloadN X3.here hx rfl (hb hby d15_17) rfl rfl ?_
    show Steps p.tables e below (T3.setTop (mkF m 18 #[.val (.ref o1), .val (.ref o2), .val (.int 0), .unset] [(.ref o1)])) _
    refine st4 _ ?_
    show Steps p.tables e below (T4.setTop (mkF m 21 #[.val (.ref o1), .val (.ref o2), .val (.int 0), .unset] [(.int 0)])) _
    refine XS.istoreN X4.here hx rfl (hb hby d15_21) rfl (l' := #[.val (.ref o1), .val (.ref o2), .val (.int 0), .val (.int 0)]) rfl ?_
    show Steps p.tables e below (T4.setTop (mkF m 22 #[.val (.ref o1), .val (.ref o2), .val (.int 0), .val (.int 0)] [])) _
    refine XS.iloadN X4.here hx rfl (hb hby d15_22) rfl ?_
    show Steps p.tables e below (T4.setTop (mkF m 23 #[.val (.ref o1), .val (.ref o2), .val (.int 0), .val (.int 0)] [(.int 0)])) _
    refine XS.iloadN X4.here hx rfl (hb hby d15_23) rfl ?_
    show Steps p.tables e below (T4.setTop (mkF m 24 #[.val (.ref o1), .val (.ref o2), .val (.int 0), .val (.int 0)] [(.int 0), (.int 0)])) _
    refine XS.icmpYes X4.here hx rfl (pc0 := 24) (pc' := 37) rfl (hb hby d15_24) rfl (flt (by decide : ¬ ((0 : Int32) < (0 : Int32)))).2.1 (by decide) (by decide) ?_
    show Steps p.tables e below (T4.setTop (mkF m 37 #[.val (.ref o1), .val (.ref o2), .val (.int 0), .val (.int 0)] [])) _
    refine XS.aloadN X4.here hx rfl (hb hby d15_37) rfl rfl ?_
    show Steps p.tables e below (T4.setTop (mkF m 38 #[.val (.ref o1), .val (.ref o2), .val (.int 0), .val (.int 0)] [(.ref o1)])) _
    refine XS.iconst X4.here hx rfl (hb hby d15_38) ?_
    show Steps p.tables e below (T4.setTop (mkF m 39 #[.val (.ref o1), .val (.ref o2), .val (.int 0), .val (.int 0)] [(.int 0), (.ref o1)])) _
    refine st5 _ ?_
    show Steps p.tables e below (T5.setTop (mkF m 42 #[.val (.ref o1), .val (.ref o2), .val (.int 0), .val (.int 0)] [])) _
    exact X5.returnOut hx Bd.returns (hb hby d15_42) hr
  · show Q15_o1 Z o1 o2 h0 n0 _ T5.heap _
    rw [e5]
    exact ⟨rfl, N5, K5, (Fw2.other W5 (Or.inr (slot_ne (Or.inl (hw _ (List.mem_of_getElem? (i := 125) rfl))) (Or.inl (hw _ (List.mem_of_getElem? (i := 127) rfl))) (by decide) (t := .int) (t' := .int) (by decide) (by decide)))), ((E_o1.wr W2).wr W5), ((F_queue_o1.other W2 (Or.inr (slot_ne (Or.inl (hw _ (List.mem_of_getElem? (i := 56) rfl))) (Or.inl (hw _ (List.mem_of_getElem? (i := 125) rfl))) (by decide) (t := (.array (.object "java/lang/Object"))) (t' := .int) (by decide) (by decide)))).other W5 (Or.inr (slot_ne (Or.inl (hw _ (List.mem_of_getElem? (i := 56) rfl))) (Or.inl (hw _ (List.mem_of_getElem? (i := 127) rfl))) (by decide) (t := (.array (.object "java/lang/Object"))) (t' := .int) (by decide) (by decide)))), Fw5, ((F_comparator_o1.other W2 (Or.inr (slot_ne (Or.inr (hw _ (List.mem_of_getElem? (i := 58) rfl))) (Or.inl (hw _ (List.mem_of_getElem? (i := 125) rfl))) (by decide) (t := (.object "java/util/Comparator")) (t' := .int) (by decide) (by decide)))).other W5 (Or.inr (slot_ne (Or.inr (hw _ (List.mem_of_getElem? (i := 58) rfl))) (Or.inl (hw _ (List.mem_of_getElem? (i := 127) rfl))) (by decide) (t := (.object "java/util/Comparator")) (t' := .int) (by decide) (by decide))))⟩
def Q13_o1 (Z : State) (o1 : Addr) (o2 : Addr) (o3 : Addr) (o4 : Addr) (h0 : Heap) (n0 : Nat) (v : Option Value) (h : Heap) (L : List Loc) : Prop := v = none ∧ Fr n0 L ∧ Keep h0 h [o2, o3] ∧ Exa Z h o2 "java/util/HashMap" ∧ Fld Z h o2 "java/util/HashMap" "modCount" "I" (.int 1) ∧ Fld Z h o2 "java/util/HashMap" "table" "[Ljava/util/HashMap$Node;" .null ∧ Fld Z h o2 "java/util/HashMap" "loadFactor" "F" (.float (1061158912 : UInt32)) ∧ Exa Z h o3 "java/util/PriorityQueue" ∧ Fld Z h o3 "java/util/PriorityQueue" "modCount" "I" (.int 1) ∧ Fld Z h o3 "java/util/PriorityQueue" "queue" "[Ljava/lang/Object;" (.ref o4) ∧ Fld Z h o3 "java/util/PriorityQueue" "size" "I" (.int 0) ∧ Fld Z h o3 "java/util/PriorityQueue" "comparator" "Ljava/util/Comparator;" .null
set_option maxRecDepth 65536 in
set_option maxHeartbeats 40000000 in
theorem rm13_o1 (l : Launch) (Z : State) (a0 : Array Value) (hw : ∀ d ∈ tables_1, d.before a0 Z = true) (ws : List Jvm.Cond) (o1 : Addr) (o2 : Addr) (o3 : Addr) (o4 : Addr) (h0 : Heap) (n0 : Nat) (Z0 : n0 ≤ h0.size) (F_leases_o1 : Fld Z h0 o1 "com/example/epochcast/epochcast/server/SessionLeases" "leases" "Ljava/util/Map;" (.ref o2)) (F_modCount_o2 : Fld Z h0 o2 "java/util/HashMap" "modCount" "I" (.int 0)) (E_o2 : Exa Z h0 o2 "java/util/HashMap") (g_o2 : n0 ≤ o2) (F_table_o2 : Fld Z h0 o2 "java/util/HashMap" "table" "[Ljava/util/HashMap$Node;" .null) (F_loadFactor_o2 : Fld Z h0 o2 "java/util/HashMap" "loadFactor" "F" (.float (1061158912 : UInt32))) (F_due_o1 : Fld Z h0 o1 "com/example/epochcast/epochcast/server/SessionLeases" "due" "Ljava/util/PriorityQueue;" (.ref o3)) (n_o1_o2 : ¬ (o1 = o2)) (F_modCount_o3 : Fld Z h0 o3 "java/util/PriorityQueue" "modCount" "I" (.int 0)) (n_o2_o3 : ¬ (o2 = o3)) (E_o3 : Exa Z h0 o3 "java/util/PriorityQueue") (g_o3 : n0 ≤ o3) (F_queue_o3 : Fld Z h0 o3 "java/util/PriorityQueue" "queue" "[Ljava/lang/Object;" (.ref o4)) (F_size_o3 : Fld Z h0 o3 "java/util/PriorityQueue" "size" "I" (.int 0)) (F_comparator_o3 : Fld Z h0 o3 "java/util/PriorityQueue" "comparator" "Ljava/util/Comparator;" .null) :
    MetFree l (⟨"com/example/epochcast/epochcast/server/SessionLeases", "clear", "()V"⟩ : MethodName) (head1 (Jvm.Cond.code (⟨"com/example/epochcast/epochcast/server/SessionLeases", "clear", "()V"⟩ : MethodName) prog_190_method_4_code 1 none :: ws) ({ frames := 1, cells := 0, slots := 0, locals := 15 } : Room)) (fun a U => a = #[(.ref o1)] ∧ Z.Warmed39 U.vm ∧ U.heap = h0) (fun _ _ _ _ _ => True) (fun _ U o U' => ∃ v L, o = .returned v ∧ Q13_o1 Z o1 o2 o3 o4 h0 n0 v U'.heap L ∧ FrameEnd U o U' L ({ frames := 1, cells := 0, slots := 0, locals := 15 } : Room).cells ({ frames := 1, cells := 0, slots := 0, locals := 15 } : Room).slots) := by
  refine MetFree.of_bodySF (plainFor_of_name pn_13) hisR ?_
  intro p e s m args below meth c s₁ Bd hml0 hP hK
  obtain ⟨rfl, hZ, hh⟩ := hP
  have hx := Bd.exec
  have hby := Bd.bytes
  have hml : c.maxLocals = 1 := hml0
  have hown : s.vm.findClass "com/example/epochcast/epochcast/server/SessionLeases" = some m.cls := findClass_of_methodNamed Bd.named
  have hnm := (name_of_methodNamed Bd.named Bd.method).1
  have X0 : Stand p l e ({ frames := 1, cells := 0, slots := 0, locals := 15 } : Room) s m #[(.ref o1)] below meth c s₁ [] 0 0 := Stand.of_body Bd
  have e0 : s₁.heap = h0 := by rw [← hh, Bd.state]; rfl
  have N0 := Fr.nil n0
  have pre0 : ∀ t, Steps p.tables e below (s₁.setTop (mkF m 0 #[.val (.ref o1)] [])) t → Steps p.tables e below (s₁.setTop (entryFrame m #[(.ref o1)] 1)) t := fun t k => castTop (by first | (simp [entryFrame, mkF, argsToLocals, Value.category]; done) | rfl) k
  obtain ⟨T1, X1, e1, st1⟩ := getF X0 hx hZ hown (host := "") (Or.inl (hw _ (List.mem_of_getElem? (i := 28) rfl))) Via.refl e0 F_leases_o1 (g := (mkF m 1 #[.val (.ref o1)] [(.ref o1)])) rfl rfl (hb hby d13_1)
  obtain ⟨cq2, kq2, q2a, q2b, q2c⟩ := isOf hZ e1 E_o2
  obtain ⟨_, _, ⟨T2, L2, k2, n2⟩, -, X2, ⟨Lc2, hQ2, l2, y2, z2⟩, st2⟩ := X1.interfaceBack hx (xi := (⟨"java/util/Map", "clear", "()V"⟩ : MethodName)) (y := (⟨"java/util/HashMap", "clear", "()V"⟩ : MethodName)) hown (mvT hZ (hw _ (List.mem_of_getElem? (i := 106) rfl))) (mvT hZ (hw _ (List.mem_of_getElem? (i := 107) rfl))) (mvT hZ (hw _ (List.mem_of_getElem? (i := 108) rfl))) (mvT hZ (hw _ (List.mem_of_getElem? (i := 109) rfl))) (mvT hZ (hw _ (List.mem_of_getElem? (i := 110) rfl))) (mvT hZ (hw _ (List.mem_of_getElem? (i := 111) rfl))) (mvT hZ (hw _ (List.mem_of_getElem? (i := 112) rfl))) (mvT hZ (hw _ (List.mem_of_getElem? (i := 113) rfl))) (by decide) (backOf (W := 0) (rm14_o1 l Z a0 hw [] o2 h0 n0 Z0 F_modCount_o2 E_o2 g_o2 F_table_o2 F_loadFactor_o2) hZ (hw _ (List.mem_of_getElem? (i := 114) rfl)) (hw _ (List.mem_of_getElem? (i := 14) rfl)) (by decide) (by decide)) q2a q2b q2c (g := (mkF m 4 #[.val (.ref o1)] [(.ref o2)])) rfl (by rw [hml]; rfl) (Steps.refl _) (argsL := []) (rest := []) (lenOf pd___V rfl) rfl (by show 2 * 0 + _ ≤ _; exact Nat.le_of_eq rfl) (hb hby d13_4) (fun _ _ => ⟨rfl, e1, (by decide : 0 + 0 ≤ _), (by decide : 0 + 0 ≤ _)⟩)
  dsimp only [Pt.U, Pt.locs, Pt.cells, Pt.slots] at X2 l2 y2 z2 st2 hQ2
  subst l2 y2 z2
  obtain ⟨rfl, N2q, Kq2, fq2_0, fq2_1, fq2_2, fq2_3⟩ := hQ2
  have N2 := Fr.app N0 N2q
  have K2 : Keep h0 T2.heap [o2, o3] := (Keep.refl h0 [o2, o3]).trans Kq2 (allS (Or.inl (List.mem_of_getElem? (i := 0) rfl)) all0)
  obtain ⟨T3, X3, e3, st3⟩ := getF X2 hx hZ hown (host := "") (Or.inl (hw _ (List.mem_of_getElem? (i := 59) rfl))) Via.refl rfl (F_due_o1.keep Kq2 (ninS n_o1_o2 nin0)) (g := (mkF m 10 #[.val (.ref o1)] [(.ref o1)])) rfl rfl (hb hby d13_10)
  obtain ⟨cq4, kq4, q4a, q4b, q4c⟩ := isOf hZ e3 (E_o3.keep Kq2)
  obtain ⟨_, _, ⟨T4, L4, k4, n4⟩, -, X4, ⟨Lc4, hQ4, l4, y4, z4⟩, st4⟩ := X3.virtualBack hx (y := (⟨"java/util/PriorityQueue", "clear", "()V"⟩ : MethodName)) (z := (⟨"java/util/PriorityQueue", "clear", "()V"⟩ : MethodName)) hown (mvT hZ (hw _ (List.mem_of_getElem? (i := 119) rfl))) (mvT hZ (hw _ (List.mem_of_getElem? (i := 120) rfl))) (notFace_of_selects (args := #[]) (mvT hZ (hw _ (List.mem_of_getElem? (i := 122) rfl)))) (mvT hZ (hw _ (List.mem_of_getElem? (i := 122) rfl))) (mvT hZ (hw _ (List.mem_of_getElem? (i := 121) rfl))) (by decide) (backOf (W := 0) (rm15_o1 l Z a0 hw [] o3 o4 T2.heap n0 (Nat.le_trans Z0 K2.1) (F_modCount_o3.keep Kq2 (ninS (Ne.symm n_o2_o3) nin0)) (E_o3.keep Kq2) g_o3 (F_queue_o3.keep Kq2 (ninS (Ne.symm n_o2_o3) nin0)) (F_size_o3.keep Kq2 (ninS (Ne.symm n_o2_o3) nin0)) (F_comparator_o3.keep Kq2 (ninS (Ne.symm n_o2_o3) nin0))) hZ (hw _ (List.mem_of_getElem? (i := 123) rfl)) (hw _ (List.mem_of_getElem? (i := 32) rfl)) (by decide) (by decide)) q4a q4c (g := (mkF m 13 #[.val (.ref o1)] [(.ref o3)])) rfl (by rw [hml]; rfl) (Steps.refl _) (argsL := []) (rest := []) (lenOf pd___V rfl) rfl (by show 2 * 0 + _ ≤ _; exact Nat.le_of_eq rfl) (hb hby d13_13) (fun _ _ => ⟨rfl, e3, (by decide : 0 + 0 ≤ _), (by decide : 0 + 0 ≤ _)⟩)
  dsimp only [Pt.U, Pt.locs, Pt.cells, Pt.slots] at X4 l4 y4 z4 st4 hQ4
  subst l4 y4 z4
  obtain ⟨rfl, N4q, Kq4, fq4_0, fq4_1, fq4_2, fq4_3, fq4_4⟩ := hQ4
  have N4 := Fr.app N2 N4q
  have K4 : Keep h0 T4.heap [o2, o3] := K2.trans Kq4 (allS (Or.inl (List.mem_of_getElem? (i := 1) rfl)) all0)
  obtain ⟨fs, hr, hrun, hended, hW, hsame⟩ := X4.leave (v := none) (fun _ => rfl)
  refine ⟨_, _, pre0 _ ?_, hrun, hended, _, _, rfl, ?_, ⟨_, rfl⟩, hW, hsame.mono (by decide) (by decide)⟩
  · show Steps p.tables e below (s₁.setTop (mkF m 0 #[.val (.ref o1)] [])) _
    refine XS.aloadN X0.here hx rfl (hb hby d13_0) rfl rfl ?_
    show Steps p.tables e below (s₁.setTop (mkF m 1 #[.val (.ref o1)] [(.ref o1)])) _
    refine st1 _ ?_
    show Steps p.tables e below (T1.setTop (mkF m 4 #[.val (.ref o1)] [(.ref o2)])) _
    refine st2.trans ?_
    show Steps p.tables e below (T2.setTop (mkF m 9 #[.val (.ref o1)] [])) _
    refine XS.aloadN X2.here hx rfl (hb hby d13_9) rfl rfl ?_
    show Steps p.tables e below (T2.setTop (mkF m 10 #[.val (.ref o1)] [(.ref o1)])) _
    refine st3 _ ?_
    show Steps p.tables e below (T3.setTop (mkF m 13 #[.val (.ref o1)] [(.ref o3)])) _
    refine st4.trans ?_
    show Steps p.tables e below (T4.setTop (mkF m 16 #[.val (.ref o1)] [])) _
    exact X4.returnOut hx Bd.returns (hb hby d13_16) hr
  · show Q13_o1 Z o1 o2 o3 o4 h0 n0 _ T4.heap _
    exact ⟨rfl, N4, K4, (fq2_1.keep Kq4), (fq2_0.keep Kq4 (ninS n_o2_o3 nin0)), (fq2_2.keep Kq4 (ninS n_o2_o3 nin0)), (fq2_3.keep Kq4 (ninS n_o2_o3 nin0)), fq4_1, fq4_0, fq4_2, fq4_3, fq4_4⟩
def Q17_o1_o2 (Z : State) (o1 : Addr) (o2 : Addr) (h0 : Heap) (n0 : Nat) (v : Option Value) (h : Heap) (L : List Loc) : Prop := v = none ∧ Fr n0 L ∧ Keep h0 h [o1] ∧ Exa Z h o1 "java/util/ArrayList$Itr" ∧ Fld Z h o1 "java/util/ArrayList$Itr" "this$0" "Ljava/util/ArrayList;" (.ref o2) ∧ Fld Z h o1 "java/util/ArrayList$Itr" "lastRet" "I" (.int (-1)) ∧ Fld Z h o1 "java/util/ArrayList$Itr" "expectedModCount" "I" (.int 0) ∧ Fld Z h o1 "java/util/ArrayList$Itr" "cursor" "I" (.int 0)
set_option maxRecDepth 65536 in
set_option maxHeartbeats 40000000 in
theorem rm17_o1_o2 (l : Launch) (Z : State) (a0 : Array Value) (hw : ∀ d ∈ tables_1, d.before a0 Z = true) (ws : List Jvm.Cond) (o1 : Addr) (o2 : Addr) (h0 : Heap) (n0 : Nat) (Z0 : n0 ≤ h0.size) (E_o1 : Exa Z h0 o1 "java/util/ArrayList$Itr") (F_this_0_o1 : Fld Z h0 o1 "java/util/ArrayList$Itr" "this$0" "Ljava/util/ArrayList;" .null) (g_o1 : n0 ≤ o1) (F_lastRet_o1 : Fld Z h0 o1 "java/util/ArrayList$Itr" "lastRet" "I" (.int 0)) (F_modCount_o2 : Fld Z h0 o2 "java/util/AbstractList" "modCount" "I" (.int 0)) (n_o1_o2 : ¬ (o1 = o2)) (F_expectedModCount_o1 : Fld Z h0 o1 "java/util/ArrayList$Itr" "expectedModCount" "I" (.int 0)) (F_cursor_o1 : Fld Z h0 o1 "java/util/ArrayList$Itr" "cursor" "I" (.int 0)) :
    MetFree l (⟨"java/util/ArrayList$Itr", "<init>", "(Ljava/util/ArrayList;)V"⟩ : MethodName) (head1 (Jvm.Cond.code (⟨"java/util/ArrayList$Itr", "<init>", "(Ljava/util/ArrayList;)V"⟩ : MethodName) jdk_49_method_1_code 2 none :: ws) ({ frames := 1, cells := 0, slots := 0, locals := 12 } : Room)) (fun a U => a = #[(.ref o1), (.ref o2)] ∧ Z.Warmed39 U.vm ∧ U.heap = h0) (fun _ _ _ _ _ => True) (fun _ U o U' => ∃ v L, o = .returned v ∧ Q17_o1_o2 Z o1 o2 h0 n0 v U'.heap L ∧ FrameEnd U o U' L ({ frames := 1, cells := 0, slots := 0, locals := 12 } : Room).cells ({ frames := 1, cells := 0, slots := 0, locals := 12 } : Room).slots) := by
  refine MetFree.of_bodySF (plainFor_of_name pn_17) hisR ?_
  intro p e s m args below meth c s₁ Bd hml0 hP hK
  obtain ⟨rfl, hZ, hh⟩ := hP
  have hx := Bd.exec
  have hby := Bd.bytes
  have hml : c.maxLocals = 2 := hml0
  have hown : s.vm.findClass "java/util/ArrayList$Itr" = some m.cls := findClass_of_methodNamed Bd.named
  have hnm := (name_of_methodNamed Bd.named Bd.method).1
  have X0 : Stand p l e ({ frames := 1, cells := 0, slots := 0, locals := 12 } : Room) s m #[(.ref o1), (.ref o2)] below meth c s₁ [] 0 0 := Stand.of_body Bd
  have e0 : s₁.heap = h0 := by rw [← hh, Bd.state]; rfl
  have N0 := Fr.nil n0
  have pre0 : ∀ t, Steps p.tables e below (s₁.setTop (mkF m 0 #[.val (.ref o1), .val (.ref o2)] [])) t → Steps p.tables e below (s₁.setTop (entryFrame m #[(.ref o1), (.ref o2)] 2)) t := fun t k => castTop (by first | (simp [entryFrame, mkF, argsToLocals, Value.category]; done) | rfl) k
  obtain ⟨T1, h1, X1, e1, W1, st1⟩ := putF X0 hx hZ hown (host := "") (Or.inl (hw _ (List.mem_of_getElem? (i := 148) rfl))) Via.refl e0 F_this_0_o1 E_o1 (Or.inr ⟨(hw _ (List.mem_of_getElem? (i := 149) rfl)), rfl, hnm⟩) (hw _ (List.mem_of_getElem? (i := 142) rfl)) (ty := (.object "java/util/ArrayList")) (by decide) rfl rfl (g := (mkF m 2 #[.val (.ref o1), .val (.ref o2)] [(.ref o2), (.ref o1)])) rfl rfl (hb hby d17_2)
  have Fw1 := F_this_0_o1.same W1
  have N1 := Fr.snoc X1 N0 g_o1
  have K1 : Keep h0 h1 [o1] := (Keep.refl h0 [o1]).wr W1 (Or.inl (List.mem_of_getElem? (i := 0) rfl))
  obtain ⟨T2, X2, e2, st2⟩ := initO X1 hx hZ hown (hw _ (List.mem_of_getElem? (i := 150) rfl)) (hw _ (List.mem_of_getElem? (i := 10) rfl)) (hw _ (List.mem_of_getElem? (i := 11) rfl)) e1 (g := (mkF m 6 #[.val (.ref o1), .val (.ref o2)] [(.ref o1)])) rfl (by rw [hml]; rfl) rfl (hb hby d17_6) (by decide) (W := 0) (by show 2 * 0 + _ ≤ _; exact Nat.le_of_eq rfl) (by decide)
  obtain ⟨T3, h3, X3, e3, W3, st3⟩ := putF X2 hx hZ hown (host := "") (Or.inl (hw _ (List.mem_of_getElem? (i := 151) rfl))) Via.refl e2 (F_lastRet_o1.other W1 (Or.inr (slot_ne (Or.inl (hw _ (List.mem_of_getElem? (i := 152) rfl))) (Or.inr (hw _ (List.mem_of_getElem? (i := 149) rfl))) (by decide) (t := .int) (t' := (.object "java/util/ArrayList")) (by decide) (by decide)))) (E_o1.wr W1) (Or.inl (hw _ (List.mem_of_getElem? (i := 152) rfl))) (hw _ (List.mem_of_getElem? (i := 142) rfl)) (ty := .int) (by decide) rfl rfl (g := (mkF m 11 #[.val (.ref o1), .val (.ref o2)] [(.int (-1)), (.ref o1)])) rfl rfl (hb hby d17_11)
  have Fw3 := (F_lastRet_o1.other W1 (Or.inr (slot_ne (Or.inl (hw _ (List.mem_of_getElem? (i := 152) rfl))) (Or.inr (hw _ (List.mem_of_getElem? (i := 149) rfl))) (by decide) (t := .int) (t' := (.object "java/util/ArrayList")) (by decide) (by decide)))).same W3
  have N3 := Fr.snoc X3 N1 g_o1
  have K3 : Keep h0 h3 [o1] := K1.wr W3 (Or.inl (List.mem_of_getElem? (i := 0) rfl))
  obtain ⟨T4, X4, e4, st4⟩ := getF X3 hx hZ hown (host := "") (Or.inl (hw _ (List.mem_of_getElem? (i := 148) rfl))) Via.refl e3 (Fw1.other W3 (Or.inr (slot_ne (Or.inr (hw _ (List.mem_of_getElem? (i := 149) rfl))) (Or.inl (hw _ (List.mem_of_getElem? (i := 152) rfl))) (by decide) (t := (.object "java/util/ArrayList")) (t' := .int) (by decide) (by decide)))) (g := (mkF m 16 #[.val (.ref o1), .val (.ref o2)] [(.ref o1), (.ref o1)])) rfl rfl (hb hby d17_16)
  obtain ⟨T5, X5, e5, st5⟩ := getF X4 hx hZ hown (host := "") (Or.inl (hw _ (List.mem_of_getElem? (i := 153) rfl))) (Via.of (hw _ (List.mem_of_getElem? (i := 154) rfl))) e4 ((F_modCount_o2.other W1 (Or.inl (Ne.symm n_o1_o2))).other W3 (Or.inl (Ne.symm n_o1_o2))) (g := (mkF m 19 #[.val (.ref o1), .val (.ref o2)] [(.ref o2), (.ref o1)])) rfl rfl (hb hby d17_19)
  obtain ⟨T6, h6, X6, e6, W6, st6⟩ := putF X5 hx hZ hown (host := "") (Or.inl (hw _ (List.mem_of_getElem? (i := 155) rfl))) Via.refl e5 ((F_expectedModCount_o1.other W1 (Or.inr (slot_ne (Or.inl (hw _ (List.mem_of_getElem? (i := 156) rfl))) (Or.inr (hw _ (List.mem_of_getElem? (i := 149) rfl))) (by decide) (t := .int) (t' := (.object "java/util/ArrayList")) (by decide) (by decide)))).other W3 (Or.inr (slot_ne (Or.inl (hw _ (List.mem_of_getElem? (i := 156) rfl))) (Or.inl (hw _ (List.mem_of_getElem? (i := 152) rfl))) (by decide) (t := .int) (t' := .int) (by decide) (by decide)))) ((E_o1.wr W1).wr W3) (Or.inl (hw _ (List.mem_of_getElem? (i := 156) rfl))) (hw _ (List.mem_of_getElem? (i := 142) rfl)) (ty := .int) (by decide) rfl rfl (g := (mkF m 22 #[.val (.ref o1), .val (.ref o2)] [(.int 0), (.ref o1)])) rfl rfl (hb hby d17_22)
  have Fw6 := ((F_expectedModCount_o1.other W1 (Or.inr (slot_ne (Or.inl (hw _ (List.mem_of_getElem? (i := 156) rfl))) (Or.inr (hw _ (List.mem_of_getElem? (i := 149) rfl))) (by decide) (t := .int) (t' := (.object "java/util/ArrayList")) (by decide) (by decide)))).other W3 (Or.inr (slot_ne (Or.inl (hw _ (List.mem_of_getElem? (i := 156) rfl))) (Or.inl (hw _ (List.mem_of_getElem? (i := 152) rfl))) (by decide) (t := .int) (t' := .int) (by decide) (by decide)))).same W6
  have N6 := Fr.snoc X6 N3 g_o1
  have K6 : Keep h0 h6 [o1] := K3.wr W6 (Or.inl (List.mem_of_getElem? (i := 0) rfl))
  obtain ⟨fs, hr, hrun, hended, hW, hsame⟩ := X6.leave (v := none) (fun _ => rfl)
  refine ⟨_, _, pre0 _ ?_, hrun, hended, _, _, rfl, ?_, ⟨_, rfl⟩, hW, hsame.mono (by decide) (by decide)⟩
  · show Steps p.tables e below (s₁.setTop (mkF m 0 #[.val (.ref o1), .val (.ref o2)] [])) _
    refine XS.aloadN X0.here hx rfl (hb hby d17_0) rfl rfl ?_
    show Steps p.tables e below (s₁.setTop (mkF m 1 #[.val (.ref o1), .val (.ref o2)] [(.ref o1)])) _
    refine XS.aloadN X0.here hx rfl (hb hby d17_1) rfl rfl ?_
    show Steps p.tables e below (s₁.setTop (mkF m 2 #[.val (.ref o1), .val (.ref o2)] [(.ref o2), (.ref o1)])) _
    refine st1 _ ?_
    show Steps p.tables e below (T1.setTop (mkF m 5 #[.val (.ref o1), .val (.ref o2)] [])) _
    refine XS.aloadN X1.here hx rfl (hb hby d17_5) rfl rfl ?_
    show Steps p.tables e below (T1.setTop (mkF m 6 #[.val (.ref o1), .val (.ref o2)] [(.ref o1)])) _
    refine st2 _ ?_
    show Steps p.tables e below (T2.setTop (mkF m 9 #[.val (.ref o1), .val (.ref o2)] [])) _
    refine XS.aloadN X2.here hx rfl (hb hby d17_9) rfl rfl ?_
    show Steps p.tables e below (T2.setTop (mkF m 10 #[.val (.ref o1), .val (.ref o2)] [(.ref o1)])) _
    refine XS.iconst X2.here hx rfl (hb hby d17_10) ?_
    show Steps p.tables e below (T2.setTop (mkF m 11 #[.val (.ref o1), .val (.ref o2)] [(.int (-1)), (.ref o1)])) _
    refine st3 _ ?_
    show Steps p.tables e below (T3.setTop (mkF m 14 #[.val (.ref o1), .val (.ref o2)] [])) _
    refine XS.aloadN X3.here hx rfl (hb hby d17_14) rfl rfl ?_
    show Steps p.tables e below (T3.setTop (mkF m 15 #[.val (.ref o1), .val (.ref o2)] [(.ref o1)])) _
    refine XS.aloadN X3.here hx rfl (hb hby d17_15) rfl rfl ?_
    show Steps p.tables e below (T3.setTop (mkF m 16 #[.val (.ref o1), .val (.ref o2)] [(.ref o1), (.ref o1)])) _
    refine st4 _ ?_
    show Steps p.tables e below (T4.setTop (mkF m 19 #[.val (.ref o1), .val (.ref o2)] [(.ref o2), (.ref o1)])) _
    refine st5 _ ?_
    show Steps p.tables e below (T5.setTop (mkF m 22 #[.val (.ref o1), .val (.ref o2)] [(.int 0), (.ref o1)])) _
    refine st6 _ ?_
    show Steps p.tables e below (T6.setTop (mkF m 25 #[.val (.ref o1), .val (.ref o2)] [])) _
    exact X6.returnOut hx Bd.returns (hb hby d17_25) hr
  · show Q17_o1_o2 Z o1 o2 h0 n0 _ T6.heap _
    rw [e6]
    exact ⟨rfl, N6, K6, (((E_o1.wr W1).wr W3).wr W6), ((Fw1.other W3 (Or.inr (slot_ne (Or.inr (hw _ (List.mem_of_getElem? (i := 149) rfl))) (Or.inl (hw _ (List.mem_of_getElem? (i := 152) rfl))) (by decide) (t := (.object "java/util/ArrayList")) (t' := .int) (by decide) (by decide)))).other W6 (Or.inr (slot_ne (Or.inr (hw _ (List.mem_of_getElem? (i := 149) rfl))) (Or.inl (hw _ (List.mem_of_getElem? (i := 156) rfl))) (by decide) (t := (.object "java/util/ArrayList")) (t' := .int) (by decide) (by decide)))), (Fw3.other W6 (Or.inr (slot_ne (Or.inl (hw _ (List.mem_of_getElem? (i := 152) rfl))) (Or.inl (hw _ (List.mem_of_getElem? (i := 156) rfl))) (by decide) (t := .int) (t' := .int) (by decide) (by decide)))), Fw6, (((F_cursor_o1.other W1 (Or.inr (slot_ne (Or.inl (hw _ (List.mem_of_getElem? (i := 167) rfl))) (Or.inr (hw _ (List.mem_of_getElem? (i := 149) rfl))) (by decide) (t := .int) (t' := (.object "java/util/ArrayList")) (by decide) (by decide)))).other W3 (Or.inr (slot_ne (Or.inl (hw _ (List.mem_of_getElem? (i := 167) rfl))) (Or.inl (hw _ (List.mem_of_getElem? (i := 152) rfl))) (by decide) (t := .int) (t' := .int) (by decide) (by decide)))).other W6 (Or.inr (slot_ne (Or.inl (hw _ (List.mem_of_getElem? (i := 167) rfl))) (Or.inl (hw _ (List.mem_of_getElem? (i := 156) rfl))) (by decide) (t := .int) (t' := .int) (by decide) (by decide))))⟩
def Q16_o1 (Z : State) (o1 : Addr) (h0 : Heap) (n0 : Nat) (v : Option Value) (h : Heap) (L : List Loc) : Prop := ∃ (c1 : Addr), v = some (.ref c1) ∧ Fr n0 L ∧ Keep h0 h [] ∧ h0.size ≤ c1 ∧ Exa Z h c1 "java/util/ArrayList$Itr" ∧ Fld Z h c1 "java/util/ArrayList$Itr" "this$0" "Ljava/util/ArrayList;" (.ref o1) ∧ Fld Z h c1 "java/util/ArrayList$Itr" "lastRet" "I" (.int (-1)) ∧ Fld Z h c1 "java/util/ArrayList$Itr" "expectedModCount" "I" (.int 0) ∧ Fld Z h c1 "java/util/ArrayList$Itr" "cursor" "I" (.int 0)
set_option maxRecDepth 65536 in
set_option maxHeartbeats 40000000 in
theorem rm16_o1 (l : Launch) (Z : State) (a0 : Array Value) (hw : ∀ d ∈ tables_1, d.before a0 Z = true) (ws : List Jvm.Cond) (o1 : Addr) (h0 : Heap) (n0 : Nat) (Z0 : n0 ≤ h0.size) (F_modCount_o1 : Fld Z h0 o1 "java/util/AbstractList" "modCount" "I" (.int 0)) :
    MetFree l (⟨"java/util/ArrayList", "iterator", "()Ljava/util/Iterator;"⟩ : MethodName) (head1 (Jvm.Cond.code (⟨"java/util/ArrayList", "iterator", "()Ljava/util/Iterator;"⟩ : MethodName) jdk_38_method_55_code 1 (some (.object "java/util/Iterator")) :: ws) ({ frames := 2, cells := 1, slots := 4, locals := 26 } : Room)) (fun a U => a = #[(.ref o1)] ∧ Z.Warmed39 U.vm ∧ U.heap = h0) (fun _ _ _ _ _ => True) (fun _ U o U' => ∃ v L, o = .returned v ∧ Q16_o1 Z o1 h0 n0 v U'.heap L ∧ FrameEnd U o U' L ({ frames := 2, cells := 1, slots := 4, locals := 26 } : Room).cells ({ frames := 2, cells := 1, slots := 4, locals := 26 } : Room).slots) := by
  refine MetFree.of_bodySF (plainFor_of_name pn_16) hisR ?_
  intro p e s m args below meth c s₁ Bd hml0 hP hK
  obtain ⟨rfl, hZ, hh⟩ := hP
  have hx := Bd.exec
  have hby := Bd.bytes
  have hml : c.maxLocals = 1 := hml0
  have hown : s.vm.findClass "java/util/ArrayList" = some m.cls := findClass_of_methodNamed Bd.named
  have hnm := (name_of_methodNamed Bd.named Bd.method).1
  have X0 : Stand p l e ({ frames := 2, cells := 1, slots := 4, locals := 26 } : Room) s m #[(.ref o1)] below meth c s₁ [] 0 0 := Stand.of_body Bd
  have e0 : s₁.heap = h0 := by rw [← hh, Bd.state]; rfl
  have N0 := Fr.nil n0
  have pre0 : ∀ t, Steps p.tables e below (s₁.setTop (mkF m 0 #[.val (.ref o1)] [])) t → Steps p.tables e below (s₁.setTop (entryFrame m #[(.ref o1)] 1)) t := fun t k => castTop (by first | (simp [entryFrame, mkF, argsToLocals, Value.category]; done) | rfl) k
  obtain ⟨T1, h1, X1, e1, E1, A1, D1, -, st1⟩ := newO X0 hx hZ hown (hw _ (List.mem_of_getElem? (i := 141) rfl)) (hw _ (List.mem_of_getElem? (i := 142) rfl)) (hw _ (List.mem_of_getElem? (i := 143) rfl)) e0 (g := (mkF m 0 #[.val (.ref o1)] [])) rfl (hb hby d16_0) (by decide) (by decide)
  obtain ⟨b1, g1⟩ : ∃ z, z = h0.size := ⟨_, rfl⟩
  have s_b1 : h0.size ≤ b1 := Nat.le_of_eq g1.symm
  have g_b1 : n0 ≤ b1 := Nat.le_trans Z0 s_b1
  have sz_b1 : h0.size ≤ b1 := s_b1
  rw [← g1] at A1 D1 st1
  have K1 : Keep h0 h1 [] := (Keep.refl h0 []).ext E1
  have F_this_0_b1 : Fld Z h1 b1 "java/util/ArrayList$Itr" "this$0" "Ljava/util/ArrayList;" .null := D1 (Or.inr (hw _ (List.mem_of_getElem? (i := 149) rfl))) (ty := (.object "java/util/ArrayList")) (by decide)
  have F_lastRet_b1 : Fld Z h1 b1 "java/util/ArrayList$Itr" "lastRet" "I" (.int 0) := D1 (Or.inl (hw _ (List.mem_of_getElem? (i := 152) rfl))) (ty := .int) (by decide)
  have F_expectedModCount_b1 : Fld Z h1 b1 "java/util/ArrayList$Itr" "expectedModCount" "I" (.int 0) := D1 (Or.inl (hw _ (List.mem_of_getElem? (i := 156) rfl))) (ty := .int) (by decide)
  have F_cursor_b1 : Fld Z h1 b1 "java/util/ArrayList$Itr" "cursor" "I" (.int 0) := D1 (Or.inl (hw _ (List.mem_of_getElem? (i := 167) rfl))) (ty := .int) (by decide)
  obtain ⟨_, _, ⟨T2, L2, k2, n2⟩, -, X2, ⟨Lc2, hQ2, l2, y2, z2⟩, st2⟩ := X1.specialBack hx (y := (⟨"java/util/ArrayList$Itr", "<init>", "(Ljava/util/ArrayList;)V"⟩ : MethodName)) rfl hown (mvT hZ (hw _ (List.mem_of_getElem? (i := 144) rfl))) (mvT hZ (hw _ (List.mem_of_getElem? (i := 145) rfl))) (mvT hZ (hw _ (List.mem_of_getElem? (i := 147) rfl))) (by decide) (backOf (W := 1) (rm17_o1_o2 l Z a0 hw [] b1 o1 h1 n0 (Nat.le_trans Z0 K1.1) A1 F_this_0_b1 g_b1 F_lastRet_b1 (F_modCount_o1.keep K1 nin0) (Ne.symm (Nat.ne_of_lt (Nat.lt_of_lt_of_le (F_modCount_o1).lt sz_b1))) F_expectedModCount_b1 F_cursor_b1) hZ (hw _ (List.mem_of_getElem? (i := 147) rfl)) (hw _ (List.mem_of_getElem? (i := 143) rfl)) (by decide) (by decide)) (g := (mkF m 5 #[.val (.ref o1)] [(.ref o1), (.ref b1), (.ref b1)])) rfl (by rw [hml]; rfl) (Steps.refl _) (a := b1) (argsL := [(.ref o1)]) (rest := [(.ref b1)]) (lenOf pd__Ljava_util_ArrayList__V rfl) rfl (by show 2 * 0 + _ ≤ _; exact Nat.le_of_eq rfl) (hb hby d16_5) (fun _ _ => ⟨rfl, e1, (by decide : 1 + 0 ≤ _), (by decide : 4 + 0 ≤ _)⟩)
  dsimp only [Pt.U, Pt.locs, Pt.cells, Pt.slots] at X2 l2 y2 z2 st2 hQ2
  subst l2 y2 z2
  obtain ⟨rfl, N2q, Kq2, fq2_0, fq2_1, fq2_2, fq2_3, fq2_4⟩ := hQ2
  have N2 := Fr.app N0 N2q
  have K2 : Keep h0 T2.heap [] := K1.trans Kq2 (allS (Or.inr sz_b1) all0)
  obtain ⟨fs, hr, hrun, hended, hW, hsame⟩ := X2.leave (v := some (.ref b1)) (fun h => by rw [Bd.returns] at h; cases h)
  refine ⟨_, _, pre0 _ ?_, hrun, hended, _, _, rfl, ?_, ⟨_, rfl⟩, hW, hsame.mono (by decide) (by decide)⟩
  · show Steps p.tables e below (s₁.setTop (mkF m 0 #[.val (.ref o1)] [])) _
    refine st1 _ ?_
    show Steps p.tables e below (T1.setTop (mkF m 3 #[.val (.ref o1)] [(.ref b1)])) _
    refine XS.dup X1.here hx rfl (hb hby d16_3) rfl rfl ?_
    show Steps p.tables e below (T1.setTop (mkF m 4 #[.val (.ref o1)] [(.ref b1), (.ref b1)])) _
    refine XS.aloadN X1.here hx rfl (hb hby d16_4) rfl rfl ?_
    show Steps p.tables e below (T1.setTop (mkF m 5 #[.val (.ref o1)] [(.ref o1), (.ref b1), (.ref b1)])) _
    refine st2.trans ?_
    show Steps p.tables e below (T2.setTop (mkF m 8 #[.val (.ref o1)] [(.ref b1)])) _
    jvm_step X2.here [X2.here.top, hx, (hb hby d16_8), X2.method', Bd.returns, Value.isRef, FieldType.isReference]
    first | (intro acts; rw [hr _ acts rfl rfl rfl]) | rw [hr _ _ rfl rfl rfl]
    exact Steps.refl _
  · show Q16_o1 Z o1 h0 n0 _ T2.heap _
    exact ⟨b1, rfl, N2, K2, sz_b1, fq2_0, fq2_1, fq2_2, fq2_3, fq2_4⟩
def Q18_o1 (Z : State) (o1 : Addr) (o2 : Addr) (h0 : Heap) (n0 : Nat) (v : Option Value) (h : Heap) (L : List Loc) : Prop := v = some (.int 0) ∧ Fr n0 L ∧ h = h0
set_option maxRecDepth 65536 in
set_option maxHeartbeats 40000000 in
theorem rm18_o1 (l : Launch) (Z : State) (a0 : Array Value) (hw : ∀ d ∈ tables_1, d.before a0 Z = true) (ws : List Jvm.Cond) (o1 : Addr) (o2 : Addr) (h0 : Heap) (n0 : Nat) (Z0 : n0 ≤ h0.size) (F_cursor_o1 : Fld Z h0 o1 "java/util/ArrayList$Itr" "cursor" "I" (.int 0)) (F_this_0_o1 : Fld Z h0 o1 "java/util/ArrayList$Itr" "this$0" "Ljava/util/ArrayList;" (.ref o2)) (F_size_o2 : Fld Z h0 o2 "java/util/ArrayList" "size" "I" (.int 0)) :
    MetFree l (⟨"java/util/ArrayList$Itr", "hasNext", "()Z"⟩ : MethodName) (head1 (Jvm.Cond.code (⟨"java/util/ArrayList$Itr", "hasNext", "()Z"⟩ : MethodName) jdk_49_method_2_code 1 (some .boolean) :: ws) ({ frames := 0, cells := 0, slots := 0, locals := 0 } : Room)) (fun a U => a = #[(.ref o1)] ∧ Z.Warmed39 U.vm ∧ U.heap = h0) (fun _ _ _ _ _ => True) (fun _ U o U' => ∃ v L, o = .returned v ∧ Q18_o1 Z o1 o2 h0 n0 v U'.heap L ∧ FrameEnd U o U' L ({ frames := 0, cells := 0, slots := 0, locals := 0 } : Room).cells ({ frames := 0, cells := 0, slots := 0, locals := 0 } : Room).slots) := by
  refine MetFree.of_bodySF (plainFor_of_name pn_18) hisR ?_
  intro p e s m args below meth c s₁ Bd hml0 hP hK
  obtain ⟨rfl, hZ, hh⟩ := hP
  have hx := Bd.exec
  have hby := Bd.bytes
  have hml : c.maxLocals = 1 := hml0
  have hown : s.vm.findClass "java/util/ArrayList$Itr" = some m.cls := findClass_of_methodNamed Bd.named
  have hnm := (name_of_methodNamed Bd.named Bd.method).1
  have X0 : Stand p l e ({ frames := 0, cells := 0, slots := 0, locals := 0 } : Room) s m #[(.ref o1)] below meth c s₁ [] 0 0 := Stand.of_body Bd
  have e0 : s₁.heap = h0 := by rw [← hh, Bd.state]; rfl
  have N0 := Fr.nil n0
  have pre0 : ∀ t, Steps p.tables e below (s₁.setTop (mkF m 0 #[.val (.ref o1)] [])) t → Steps p.tables e below (s₁.setTop (entryFrame m #[(.ref o1)] 1)) t := fun t k => castTop (by first | (simp [entryFrame, mkF, argsToLocals, Value.category]; done) | rfl) k
  obtain ⟨T1, X1, e1, st1⟩ := getF X0 hx hZ hown (host := "") (Or.inl (hw _ (List.mem_of_getElem? (i := 166) rfl))) Via.refl e0 F_cursor_o1 (g := (mkF m 1 #[.val (.ref o1)] [(.ref o1)])) rfl rfl (hb hby d18_1)
  obtain ⟨T2, X2, e2, st2⟩ := getF X1 hx hZ hown (host := "") (Or.inl (hw _ (List.mem_of_getElem? (i := 148) rfl))) Via.refl e1 F_this_0_o1 (g := (mkF m 5 #[.val (.ref o1)] [(.ref o1), (.int 0)])) rfl rfl (hb hby d18_5)
  obtain ⟨T3, X3, e3, st3⟩ := getF X2 hx hZ hown (Or.inr (hw _ (List.mem_of_getElem? (i := 168) rfl))) Via.refl e2 F_size_o2 (g := (mkF m 8 #[.val (.ref o1)] [(.ref o2), (.int 0)])) rfl rfl (hb hby d18_8)
  obtain ⟨fs, hr, hrun, hended, hW, hsame⟩ := X3.leave (v := some (.int 0)) (fun h => by rw [Bd.returns] at h; cases h)
  refine ⟨_, _, pre0 _ ?_, hrun, hended, _, _, rfl, ?_, ⟨_, rfl⟩, hW, hsame.mono (by decide) (by decide)⟩
  · show Steps p.tables e below (s₁.setTop (mkF m 0 #[.val (.ref o1)] [])) _
    refine XS.aloadN X0.here hx rfl (hb hby d18_0) rfl rfl ?_
    show Steps p.tables e below (s₁.setTop (mkF m 1 #[.val (.ref o1)] [(.ref o1)])) _
    refine st1 _ ?_
    show Steps p.tables e below (T1.setTop (mkF m 4 #[.val (.ref o1)] [(.int 0)])) _
    refine XS.aloadN X1.here hx rfl (hb hby d18_4) rfl rfl ?_
    show Steps p.tables e below (T1.setTop (mkF m 5 #[.val (.ref o1)] [(.ref o1), (.int 0)])) _
    refine st2 _ ?_
    show Steps p.tables e below (T2.setTop (mkF m 8 #[.val (.ref o1)] [(.ref o2), (.int 0)])) _
    refine st3 _ ?_
    show Steps p.tables e below (T3.setTop (mkF m 11 #[.val (.ref o1)] [(.int 0), (.int 0)])) _
    refine XS.icmpYes X3.here hx rfl (pc0 := 11) (pc' := 18) rfl (hb hby d18_11) rfl (teq (by decide : (0 : Int32) = (0 : Int32))).1 (by decide) (by decide) ?_
    show Steps p.tables e below (T3.setTop (mkF m 18 #[.val (.ref o1)] [])) _
    refine XS.iconst X3.here hx rfl (hb hby d18_18) ?_
    show Steps p.tables e below (T3.setTop (mkF m 19 #[.val (.ref o1)] [(.int 0)])) _
    exact retN X3 hx (t := .boolean) Bd.returns (by simp) (hb hby d18_19) hr
  · show Q18_o1 Z o1 o2 h0 n0 _ T3.heap _
    rw [e3]
    exact ⟨rfl, N0, rfl⟩
def Q12_o1_o2_q2 (Z : State) (o1 : Addr) (o2 : Addr) (q2 : Int64) (o3 : Addr) (o4 : Addr) (o5 : Addr) (tk : Int64) (lp : Int64) (h0 : Heap) (n0 : Nat) (v : Option Value) (h : Heap) (L : List Loc) : Prop := v = none ∧ Fr n0 L ∧ Keep h0 h [o3, o4, o1] ∧ Exa Z h o3 "java/util/HashMap" ∧ Fld Z h o3 "java/util/HashMap" "modCount" "I" (.int 1) ∧ Fld Z h o3 "java/util/HashMap" "table" "[Ljava/util/HashMap$Node;" .null ∧ Fld Z h o3 "java/util/HashMap" "loadFactor" "F" (.float (1061158912 : UInt32)) ∧ Exa Z h o4 "java/util/PriorityQueue" ∧ Fld Z h o4 "java/util/PriorityQueue" "modCount" "I" (.int 1) ∧ Fld Z h o4 "java/util/PriorityQueue" "queue" "[Ljava/lang/Object;" (.ref o5) ∧ Fld Z h o4 "java/util/PriorityQueue" "size" "I" (.int 0) ∧ Fld Z h o4 "java/util/PriorityQueue" "comparator" "Ljava/util/Comparator;" .null ∧ Fld Z h o1 "com/example/epochcast/epochcast/server/SessionLeases" "leases" "Ljava/util/Map;" (.ref o3) ∧ Fld Z h o1 "com/example/epochcast/epochcast/server/SessionLeases" "due" "Ljava/util/PriorityQueue;" (.ref o4) ∧ Exa Z h o1 "com/example/epochcast/epochcast/server/SessionLeases" ∧ Fld Z h o1 "com/example/epochcast/epochcast/server/SessionLeases" "lastHeartbeat" "J" (.long q2) ∧ Fld Z h o1 "com/example/epochcast/epochcast/server/SessionLeases" "countingFrom" "J" (.long q2) ∧ Fld Z h o1 "com/example/epochcast/epochcast/server/SessionLeases" "tick" "J" (.long tk) ∧ Fld Z h o1 "com/example/epochcast/epochcast/server/SessionLeases" "lapse" "J" (.long lp)
set_option maxRecDepth 65536 in
set_option maxHeartbeats 40000000 in
theorem rm12_o1_o2_q2 (l : Launch) (Z : State) (a0 : Array Value) (hw : ∀ d ∈ tables_1, d.before a0 Z = true) (ws : List Jvm.Cond) (o1 : Addr) (o2 : Addr) (q2 : Int64) (o3 : Addr) (o4 : Addr) (o5 : Addr) (tk : Int64) (lp : Int64) (h0 : Heap) (n0 : Nat) (Z0 : n0 ≤ h0.size) (F_leases_o1 : Fld Z h0 o1 "com/example/epochcast/epochcast/server/SessionLeases" "leases" "Ljava/util/Map;" (.ref o3)) (F_modCount_o3 : Fld Z h0 o3 "java/util/HashMap" "modCount" "I" (.int 0)) (E_o3 : Exa Z h0 o3 "java/util/HashMap") (g_o3 : n0 ≤ o3) (F_table_o3 : Fld Z h0 o3 "java/util/HashMap" "table" "[Ljava/util/HashMap$Node;" .null) (F_loadFactor_o3 : Fld Z h0 o3 "java/util/HashMap" "loadFactor" "F" (.float (1061158912 : UInt32))) (F_due_o1 : Fld Z h0 o1 "com/example/epochcast/epochcast/server/SessionLeases" "due" "Ljava/util/PriorityQueue;" (.ref o4)) (n_o1_o3 : ¬ (o1 = o3)) (F_modCount_o4 : Fld Z h0 o4 "java/util/PriorityQueue" "modCount" "I" (.int 0)) (n_o3_o4 : ¬ (o3 = o4)) (E_o4 : Exa Z h0 o4 "java/util/PriorityQueue") (g_o4 : n0 ≤ o4) (F_queue_o4 : Fld Z h0 o4 "java/util/PriorityQueue" "queue" "[Ljava/lang/Object;" (.ref o5)) (F_size_o4 : Fld Z h0 o4 "java/util/PriorityQueue" "size" "I" (.int 0)) (F_comparator_o4 : Fld Z h0 o4 "java/util/PriorityQueue" "comparator" "Ljava/util/Comparator;" .null) (E_o1 : Exa Z h0 o1 "com/example/epochcast/epochcast/server/SessionLeases") (F_lastHeartbeat_o1 : Fld Z h0 o1 "com/example/epochcast/epochcast/server/SessionLeases" "lastHeartbeat" "J" (.long 0)) (n_o1_o4 : ¬ (o1 = o4)) (g_o1 : n0 ≤ o1) (F_countingFrom_o1 : Fld Z h0 o1 "com/example/epochcast/epochcast/server/SessionLeases" "countingFrom" "J" (.long 0)) (F_modCount_o2 : Fld Z h0 o2 "java/util/AbstractList" "modCount" "I" (.int 0)) (n_o2_o4 : ¬ (o2 = o4)) (n_o2_o3 : ¬ (o2 = o3)) (n_o1_o2 : ¬ (o1 = o2)) (E_o2 : Exa Z h0 o2 "java/util/ArrayList") (F_size_o2 : Fld Z h0 o2 "java/util/ArrayList" "size" "I" (.int 0)) (F_tick_o1 : Fld Z h0 o1 "com/example/epochcast/epochcast/server/SessionLeases" "tick" "J" (.long tk)) (F_lapse_o1 : Fld Z h0 o1 "com/example/epochcast/epochcast/server/SessionLeases" "lapse" "J" (.long lp)) :
    MetFree l (⟨"com/example/epochcast/epochcast/server/SessionLeases", "begin", "(Ljava/util/Collection;J)V"⟩ : MethodName) (head1 (Jvm.Cond.code (⟨"com/example/epochcast/epochcast/server/SessionLeases", "begin", "(Ljava/util/Collection;J)V"⟩ : MethodName) prog_190_method_2_code 6 none :: ws) ({ frames := 3, cells := 1, slots := 4, locals := 38 } : Room)) (fun a U => a = #[(.ref o1), (.ref o2), (.long q2)] ∧ Z.Warmed39 U.vm ∧ U.heap = h0) (fun _ _ _ _ _ => True) (fun _ U o U' => ∃ v L, o = .returned v ∧ Q12_o1_o2_q2 Z o1 o2 q2 o3 o4 o5 tk lp h0 n0 v U'.heap L ∧ FrameEnd U o U' L ({ frames := 3, cells := 1, slots := 4, locals := 38 } : Room).cells ({ frames := 3, cells := 1, slots := 4, locals := 38 } : Room).slots) := by
  refine MetFree.of_bodySF (plainFor_of_name pn_12) hisR ?_
  intro p e s m args below meth c s₁ Bd hml0 hP hK
  obtain ⟨rfl, hZ, hh⟩ := hP
  have hx := Bd.exec
  have hby := Bd.bytes
  have hml : c.maxLocals = 6 := hml0
  have hown : s.vm.findClass "com/example/epochcast/epochcast/server/SessionLeases" = some m.cls := findClass_of_methodNamed Bd.named
  have hnm := (name_of_methodNamed Bd.named Bd.method).1
  have X0 : Stand p l e ({ frames := 3, cells := 1, slots := 4, locals := 38 } : Room) s m #[(.ref o1), (.ref o2), (.long q2)] below meth c s₁ [] 0 0 := Stand.of_body Bd
  have e0 : s₁.heap = h0 := by rw [← hh, Bd.state]; rfl
  have N0 := Fr.nil n0
  have pre0 : ∀ t, Steps p.tables e below (s₁.setTop (mkF m 0 #[.val (.ref o1), .val (.ref o2), .val (.long q2), .second, .unset, .unset] [])) t → Steps p.tables e below (s₁.setTop (entryFrame m #[(.ref o1), (.ref o2), (.long q2)] 6)) t := fun t k => castTop (by first | (simp [entryFrame, mkF, argsToLocals, Value.category]; done) | rfl) k
  obtain ⟨cq1, kq1, q1a, q1b, q1c⟩ := isOf hZ e0 E_o1
  obtain ⟨_, _, ⟨T1, L1, k1, n1⟩, -, X1, ⟨Lc1, hQ1, l1, y1, z1⟩, st1⟩ := X0.virtualBack hx (y := (⟨"com/example/epochcast/epochcast/server/SessionLeases", "clear", "()V"⟩ : MethodName)) (z := (⟨"com/example/epochcast/epochcast/server/SessionLeases", "clear", "()V"⟩ : MethodName)) hown (mvT hZ (hw _ (List.mem_of_getElem? (i := 101) rfl))) (mvT hZ (hw _ (List.mem_of_getElem? (i := 102) rfl))) (notFace_of_selects (args := #[]) (mvT hZ (hw _ (List.mem_of_getElem? (i := 104) rfl)))) (mvT hZ (hw _ (List.mem_of_getElem? (i := 104) rfl))) (mvT hZ (hw _ (List.mem_of_getElem? (i := 103) rfl))) (by decide) (backOf (W := 0) (rm13_o1 l Z a0 hw [] o1 o3 o4 o5 h0 n0 Z0 F_leases_o1 F_modCount_o3 E_o3 g_o3 F_table_o3 F_loadFactor_o3 F_due_o1 n_o1_o3 F_modCount_o4 n_o3_o4 E_o4 g_o4 F_queue_o4 F_size_o4 F_comparator_o4) hZ (hw _ (List.mem_of_getElem? (i := 105) rfl)) (hw _ (List.mem_of_getElem? (i := 5) rfl)) (by decide) (by decide)) q1a q1c (g := (mkF m 1 #[.val (.ref o1), .val (.ref o2), .val (.long q2), .second, .unset, .unset] [(.ref o1)])) rfl (by rw [hml]; rfl) (Steps.refl _) (argsL := []) (rest := []) (lenOf pd___V rfl) rfl (by show 2 * 0 + _ ≤ _; exact Nat.le_of_eq rfl) (hb hby d12_1) (fun _ _ => ⟨rfl, e0, (by decide : 0 + 0 ≤ _), (by decide : 0 + 0 ≤ _)⟩)
  dsimp only [Pt.U, Pt.locs, Pt.cells, Pt.slots] at X1 l1 y1 z1 st1 hQ1
  subst l1 y1 z1
  obtain ⟨rfl, N1q, Kq1, fq1_0, fq1_1, fq1_2, fq1_3, fq1_4, fq1_5, fq1_6, fq1_7, fq1_8⟩ := hQ1
  have N1 := Fr.app N0 N1q
  have K1 : Keep h0 T1.heap [o3, o4, o1] := (Keep.refl h0 [o3, o4, o1]).trans Kq1 (allS (Or.inl (List.mem_of_getElem? (i := 0) rfl)) (allS (Or.inl (List.mem_of_getElem? (i := 1) rfl)) all0))
  obtain ⟨T2, h2, X2, e2, W2, st2⟩ := putF X1 hx hZ hown (host := "") (Or.inl (hw _ (List.mem_of_getElem? (i := 128) rfl))) Via.refl rfl (F_lastHeartbeat_o1.keep Kq1 (ninS n_o1_o3 (ninS n_o1_o4 nin0))) (E_o1.keep Kq1) (Or.inl (hw _ (List.mem_of_getElem? (i := 129) rfl))) (hw _ (List.mem_of_getElem? (i := 4) rfl)) (ty := .long) (by decide) rfl rfl (g := (mkF m 6 #[.val (.ref o1), .val (.ref o2), .val (.long q2), .second, .unset, .unset] [(.long q2), (.ref o1)])) rfl rfl (hb hby d12_6)
  have Fw2 := (F_lastHeartbeat_o1.keep Kq1 (ninS n_o1_o3 (ninS n_o1_o4 nin0))).same W2
  have N2 := Fr.snoc X2 N1 g_o1
  have K2 : Keep h0 h2 [o3, o4, o1] := K1.wr W2 (Or.inl (List.mem_of_getElem? (i := 2) rfl))
  obtain ⟨T3, h3, X3, e3, W3, st3⟩ := putF X2 hx hZ hown (host := "") (Or.inl (hw _ (List.mem_of_getElem? (i := 130) rfl))) Via.refl e2 ((F_countingFrom_o1.keep Kq1 (ninS n_o1_o3 (ninS n_o1_o4 nin0))).other W2 (Or.inr (slot_ne (Or.inl (hw _ (List.mem_of_getElem? (i := 131) rfl))) (Or.inl (hw _ (List.mem_of_getElem? (i := 129) rfl))) (by decide) (t := .long) (t' := .long) (by decide) (by decide)))) ((E_o1.keep Kq1).wr W2) (Or.inl (hw _ (List.mem_of_getElem? (i := 131) rfl))) (hw _ (List.mem_of_getElem? (i := 4) rfl)) (ty := .long) (by decide) rfl rfl (g := (mkF m 11 #[.val (.ref o1), .val (.ref o2), .val (.long q2), .second, .unset, .unset] [(.long q2), (.ref o1)])) rfl rfl (hb hby d12_11)
  have Fw3 := ((F_countingFrom_o1.keep Kq1 (ninS n_o1_o3 (ninS n_o1_o4 nin0))).other W2 (Or.inr (slot_ne (Or.inl (hw _ (List.mem_of_getElem? (i := 131) rfl))) (Or.inl (hw _ (List.mem_of_getElem? (i := 129) rfl))) (by decide) (t := .long) (t' := .long) (by decide) (by decide)))).same W3
  have N3 := Fr.snoc X3 N2 g_o1
  have K3 : Keep h0 h3 [o3, o4, o1] := K2.wr W3 (Or.inl (List.mem_of_getElem? (i := 2) rfl))
  obtain ⟨cq4, kq4, q4a, q4b, q4c⟩ := isOf hZ e3 (((E_o2.keep Kq1).wr W2).wr W3)
  obtain ⟨_, _, ⟨T4, L4, k4, n4⟩, -, X4, ⟨Lc4, hQ4, l4, y4, z4⟩, st4⟩ := X3.interfaceBack hx (xi := (⟨"java/util/Collection", "iterator", "()Ljava/util/Iterator;"⟩ : MethodName)) (y := (⟨"java/util/ArrayList", "iterator", "()Ljava/util/Iterator;"⟩ : MethodName)) hown (mvT hZ (hw _ (List.mem_of_getElem? (i := 132) rfl))) (mvT hZ (hw _ (List.mem_of_getElem? (i := 133) rfl))) (mvT hZ (hw _ (List.mem_of_getElem? (i := 134) rfl))) (mvT hZ (hw _ (List.mem_of_getElem? (i := 135) rfl))) (mvT hZ (hw _ (List.mem_of_getElem? (i := 136) rfl))) (mvT hZ (hw _ (List.mem_of_getElem? (i := 137) rfl))) (mvT hZ (hw _ (List.mem_of_getElem? (i := 138) rfl))) (mvT hZ (hw _ (List.mem_of_getElem? (i := 139) rfl))) (by decide) (backOf (W := 0) (rm16_o1 l Z a0 hw [] o2 h3 n0 (Nat.le_trans Z0 K3.1) (((F_modCount_o2.keep Kq1 (ninS n_o2_o3 (ninS n_o2_o4 nin0))).other W2 (Or.inl (Ne.symm n_o1_o2))).other W3 (Or.inl (Ne.symm n_o1_o2)))) hZ (hw _ (List.mem_of_getElem? (i := 140) rfl)) (hw _ (List.mem_of_getElem? (i := 79) rfl)) (by decide) (by decide)) q4a q4b q4c (g := (mkF m 15 #[.val (.ref o1), .val (.ref o2), .val (.long q2), .second, .unset, .unset] [(.ref o2)])) rfl (by rw [hml]; rfl) (Steps.refl _) (argsL := []) (rest := []) (lenOf pd___Ljava_util_Iterator_ rfl) rfl (by show 2 * 0 + _ ≤ _; exact Nat.le_of_eq rfl) (hb hby d12_15) (fun _ _ => ⟨rfl, e3, (by decide : 0 + 1 ≤ _), (by decide : 0 + 4 ≤ _)⟩)
  dsimp only [Pt.U, Pt.locs, Pt.cells, Pt.slots] at X4 l4 y4 z4 st4 hQ4
  subst l4 y4 z4
  obtain ⟨b4c1, rfl, N4q, Kq4, s_b4c1, fq4_0, fq4_1, fq4_2, fq4_3, fq4_4⟩ := hQ4
  have N4 := Fr.app N3 N4q
  have g_b4c1 : n0 ≤ b4c1 := Nat.le_trans (Nat.le_trans Z0 K3.1) s_b4c1
  have sz_b4c1 : h0.size ≤ b4c1 := Nat.le_trans K3.1 s_b4c1
  have K4 : Keep h0 T4.heap [o3, o4, o1] := K3.trans Kq4 all0
  obtain ⟨cq5, kq5, q5a, q5b, q5c⟩ := isOf hZ rfl fq4_0
  obtain ⟨_, _, ⟨T5, L5, k5, n5⟩, -, X5, ⟨Lc5, hQ5, l5, y5, z5⟩, st5⟩ := X4.interfaceBack hx (xi := (⟨"java/util/Iterator", "hasNext", "()Z"⟩ : MethodName)) (y := (⟨"java/util/ArrayList$Itr", "hasNext", "()Z"⟩ : MethodName)) hown (mvT hZ (hw _ (List.mem_of_getElem? (i := 157) rfl))) (mvT hZ (hw _ (List.mem_of_getElem? (i := 158) rfl))) (mvT hZ (hw _ (List.mem_of_getElem? (i := 159) rfl))) (mvT hZ (hw _ (List.mem_of_getElem? (i := 160) rfl))) (mvT hZ (hw _ (List.mem_of_getElem? (i := 161) rfl))) (mvT hZ (hw _ (List.mem_of_getElem? (i := 162) rfl))) (mvT hZ (hw _ (List.mem_of_getElem? (i := 163) rfl))) (mvT hZ (hw _ (List.mem_of_getElem? (i := 164) rfl))) (by decide) (backOf (W := 0) (rm18_o1 l Z a0 hw [] b4c1 o2 T4.heap n0 (Nat.le_trans Z0 K4.1) fq4_4 fq4_1 ((((F_size_o2.keep Kq1 (ninS n_o2_o3 (ninS n_o2_o4 nin0))).other W2 (Or.inl (Ne.symm n_o1_o2))).other W3 (Or.inl (Ne.symm n_o1_o2))).keep Kq4 nin0)) hZ (hw _ (List.mem_of_getElem? (i := 165) rfl)) (hw _ (List.mem_of_getElem? (i := 143) rfl)) (by decide) (by decide)) q5a q5b q5c (g := (mkF m 24 #[.val (.ref o1), .val (.ref o2), .val (.long q2), .second, .val (.ref b4c1), .unset] [(.ref b4c1)])) rfl (by rw [hml]; rfl) (Steps.refl _) (argsL := []) (rest := []) (lenOf pd___Z rfl) rfl (by show 2 * 0 + _ ≤ _; exact Nat.le_of_eq rfl) (hb hby d12_24) (fun _ _ => ⟨rfl, rfl, (by decide : 1 + 0 ≤ _), (by decide : 4 + 0 ≤ _)⟩)
  dsimp only [Pt.U, Pt.locs, Pt.cells, Pt.slots] at X5 l5 y5 z5 st5 hQ5
  subst l5 y5 z5
  obtain ⟨rfl, N5q, e5⟩ := hQ5
  have N5 := Fr.app N4 N5q
  obtain ⟨fs, hr, hrun, hended, hW, hsame⟩ := X5.leave (v := none) (fun _ => rfl)
  refine ⟨_, _, pre0 _ ?_, hrun, hended, _, _, rfl, ?_, ⟨_, rfl⟩, hW, hsame.mono (by decide) (by decide)⟩
  · show Steps p.tables e below (s₁.setTop (mkF m 0 #[.val (.ref o1), .val (.ref o2), .val (.long q2), .second, .unset, .unset] [])) _
    refine XS.aloadN X0.here hx rfl (hb hby d12_0) rfl rfl ?_
    show Steps p.tables e below (s₁.setTop (mkF m 1 #[.val (.ref o1), .val (.ref o2), .val (.long q2), .second, .unset, .unset] [(.ref o1)])) _
    refine st1.trans ?_
    show Steps p.tables e below (T1.setTop (mkF m 4 #[.val (.ref o1), .val (.ref o2), .val (.long q2), .second, .unset, .unset] [])) _
    refine XS.aloadN X1.here hx rfl (hb hby d12_4) rfl rfl ?_
    show Steps p.tables e below (T1.setTop (mkF m 5 #[.val (.ref o1), .val (.ref o2), .val (.long q2), .second, .unset, .unset] [(.ref o1)])) _
    refine XS.lloadN X1.here hx rfl (hb hby d12_5) rfl ?_
    show Steps p.tables e below (T1.setTop (mkF m 6 #[.val (.ref o1), .val (.ref o2), .val (.long q2), .second, .unset, .unset] [(.long q2), (.ref o1)])) _
    refine st2 _ ?_
    show Steps p.tables e below (T2.setTop (mkF m 9 #[.val (.ref o1), .val (.ref o2), .val (.long q2), .second, .unset, .unset] [])) _
    refine XS.aloadN X2.here hx rfl (hb hby d12_9) rfl rfl ?_
    show Steps p.tables e below (T2.setTop (mkF m 10 #[.val (.ref o1), .val (.ref o2), .val (.long q2), .second, .unset, .unset] [(.ref o1)])) _
    refine XS.lloadN X2.here hx rfl (hb hby d12_10) rfl ?_
    show Steps p.tables e below (T2.setTop (mkF m 11 #[.val (.ref o1), .val (.ref o2), .val (.long q2), .second, .unset, .unset] [(.long q2), (.ref o1)])) _
    refine st3 _ ?_
    show Steps p.tables e below (T3.setTop (mkF m 14 #[.val (.ref o1), .val (.ref o2), .val (.long q2), .second, .unset, .unset] [])) _
    refine XS.aloadN X3.here hx rfl (hb hby d12_14) rfl rfl ?_
    show Steps p.tables e below (T3.setTop (mkF m 15 #[.val (.ref o1), .val (.ref o2), .val (.long q2), .second, .unset, .unset] [(.ref o2)])) _
    refine st4.trans ?_
    show Steps p.tables e below (T4.setTop (mkF m 20 #[.val (.ref o1), .val (.ref o2), .val (.long q2), .second, .unset, .unset] [(.ref b4c1)])) _
    refine XS.astore X4.here hx rfl (hb hby d12_20) rfl rfl (l' := #[.val (.ref o1), .val (.ref o2), .val (.long q2), .second, .val (.ref b4c1), .unset]) rfl ?_
    show Steps p.tables e below (T4.setTop (mkF m 22 #[.val (.ref o1), .val (.ref o2), .val (.long q2), .second, .val (.ref b4c1), .unset] [])) _
    refine XS.aload X4.here hx rfl (hb hby d12_22) rfl rfl ?_
    show Steps p.tables e below (T4.setTop (mkF m 24 #[.val (.ref o1), .val (.ref o2), .val (.long q2), .second, .val (.ref b4c1), .unset] [(.ref b4c1)])) _
    refine st5.trans ?_
    show Steps p.tables e below (T5.setTop (mkF m 29 #[.val (.ref o1), .val (.ref o2), .val (.long q2), .second, .val (.ref b4c1), .unset] [(.int 0)])) _
    refine XS.ifYes X5.here hx rfl (pc0 := 29) (pc' := 71) rfl (hb hby d12_29) rfl ((if0 _ _).trans (teq (by decide : (0 : Int32) = (0 : Int32))).1) (by decide) (by decide) ?_
    show Steps p.tables e below (T5.setTop (mkF m 71 #[.val (.ref o1), .val (.ref o2), .val (.long q2), .second, .val (.ref b4c1), .unset] [])) _
    exact X5.returnOut hx Bd.returns (hb hby d12_71) hr
  · show Q12_o1_o2_q2 Z o1 o2 q2 o3 o4 o5 tk lp h0 n0 _ T5.heap _
    rw [e5]
    exact ⟨rfl, N5, K4, (((fq1_0.wr W2).wr W3).keep Kq4), (((fq1_1.other W2 (Or.inl (Ne.symm n_o1_o3))).other W3 (Or.inl (Ne.symm n_o1_o3))).keep Kq4 nin0), (((fq1_2.other W2 (Or.inl (Ne.symm n_o1_o3))).other W3 (Or.inl (Ne.symm n_o1_o3))).keep Kq4 nin0), (((fq1_3.other W2 (Or.inl (Ne.symm n_o1_o3))).other W3 (Or.inl (Ne.symm n_o1_o3))).keep Kq4 nin0), (((fq1_4.wr W2).wr W3).keep Kq4), (((fq1_5.other W2 (Or.inl (Ne.symm n_o1_o4))).other W3 (Or.inl (Ne.symm n_o1_o4))).keep Kq4 nin0), (((fq1_6.other W2 (Or.inl (Ne.symm n_o1_o4))).other W3 (Or.inl (Ne.symm n_o1_o4))).keep Kq4 nin0), (((fq1_7.other W2 (Or.inl (Ne.symm n_o1_o4))).other W3 (Or.inl (Ne.symm n_o1_o4))).keep Kq4 nin0), (((fq1_8.other W2 (Or.inl (Ne.symm n_o1_o4))).other W3 (Or.inl (Ne.symm n_o1_o4))).keep Kq4 nin0), ((((F_leases_o1.keep Kq1 (ninS n_o1_o3 (ninS n_o1_o4 nin0))).other W2 (Or.inr (slot_ne (Or.inr (hw _ (List.mem_of_getElem? (i := 29) rfl))) (Or.inl (hw _ (List.mem_of_getElem? (i := 129) rfl))) (by decide) (t := (.object "java/util/Map")) (t' := .long) (by decide) (by decide)))).other W3 (Or.inr (slot_ne (Or.inr (hw _ (List.mem_of_getElem? (i := 29) rfl))) (Or.inl (hw _ (List.mem_of_getElem? (i := 131) rfl))) (by decide) (t := (.object "java/util/Map")) (t' := .long) (by decide) (by decide)))).keep Kq4 nin0), ((((F_due_o1.keep Kq1 (ninS n_o1_o3 (ninS n_o1_o4 nin0))).other W2 (Or.inr (slot_ne (Or.inr (hw _ (List.mem_of_getElem? (i := 60) rfl))) (Or.inl (hw _ (List.mem_of_getElem? (i := 129) rfl))) (by decide) (t := (.object "java/util/PriorityQueue")) (t' := .long) (by decide) (by decide)))).other W3 (Or.inr (slot_ne (Or.inr (hw _ (List.mem_of_getElem? (i := 60) rfl))) (Or.inl (hw _ (List.mem_of_getElem? (i := 131) rfl))) (by decide) (t := (.object "java/util/PriorityQueue")) (t' := .long) (by decide) (by decide)))).keep Kq4 nin0), ((((E_o1.keep Kq1).wr W2).wr W3).keep Kq4), ((Fw2.other W3 (Or.inr (slot_ne (Or.inl (hw _ (List.mem_of_getElem? (i := 129) rfl))) (Or.inl (hw _ (List.mem_of_getElem? (i := 131) rfl))) (by decide) (t := .long) (t' := .long) (by decide) (by decide)))).keep Kq4 nin0), (Fw3.keep Kq4 nin0), ((((F_tick_o1.keep Kq1 (ninS n_o1_o3 (ninS n_o1_o4 nin0))).other W2 (Or.inr (slot_ne (Or.inr (hw _ (List.mem_of_getElem? (i := 73) rfl))) (Or.inl (hw _ (List.mem_of_getElem? (i := 129) rfl))) (by decide) (t := .long) (t' := .long) (by decide) (by decide)))).other W3 (Or.inr (slot_ne (Or.inr (hw _ (List.mem_of_getElem? (i := 73) rfl))) (Or.inl (hw _ (List.mem_of_getElem? (i := 131) rfl))) (by decide) (t := .long) (t' := .long) (by decide) (by decide)))).keep Kq4 nin0), ((((F_lapse_o1.keep Kq1 (ninS n_o1_o3 (ninS n_o1_o4 nin0))).other W2 (Or.inr (slot_ne (Or.inr (hw _ (List.mem_of_getElem? (i := 76) rfl))) (Or.inl (hw _ (List.mem_of_getElem? (i := 129) rfl))) (by decide) (t := .long) (t' := .long) (by decide) (by decide)))).other W3 (Or.inr (slot_ne (Or.inr (hw _ (List.mem_of_getElem? (i := 76) rfl))) (Or.inl (hw _ (List.mem_of_getElem? (i := 131) rfl))) (by decide) (t := .long) (t' := .long) (by decide) (by decide)))).keep Kq4 nin0)⟩
def Q19_o1_va (Z : State) (o1 : Addr) (va : Int64) (q2 : Int64) (lp : Int64) (tk : Int64) (ca : Int64) (o2 : Addr) (o3 : Addr) (h0 : Heap) (n0 : Nat) (v : Option Value) (h : Heap) (L : List Loc) : Prop := v = none ∧ Fr n0 L ∧ Keep h0 h [o1] ∧ Fld Z h o1 "com/example/epochcast/epochcast/server/SessionLeases" "lastHeartbeat" "J" (.long va) ∧ Fld Z h o1 "com/example/epochcast/epochcast/server/SessionLeases" "lapse" "J" (.long lp) ∧ Fld Z h o1 "com/example/epochcast/epochcast/server/SessionLeases" "tick" "J" (.long tk) ∧ Exa Z h o1 "com/example/epochcast/epochcast/server/SessionLeases" ∧ Fld Z h o1 "com/example/epochcast/epochcast/server/SessionLeases" "countingFrom" "J" (.long ca) ∧ Fld Z h o1 "com/example/epochcast/epochcast/server/SessionLeases" "leases" "Ljava/util/Map;" (.ref o2) ∧ Fld Z h o1 "com/example/epochcast/epochcast/server/SessionLeases" "due" "Ljava/util/PriorityQueue;" (.ref o3)
set_option maxRecDepth 65536 in
set_option maxHeartbeats 40000000 in
theorem rm19_o1_va (l : Launch) (Z : State) (a0 : Array Value) (hw : ∀ d ∈ tables_1, d.before a0 Z = true) (ws : List Jvm.Cond) (o1 : Addr) (va : Int64) (q2 : Int64) (lp : Int64) (tk : Int64) (ca : Int64) (o2 : Addr) (o3 : Addr) (h0 : Heap) (n0 : Nat) (Z0 : n0 ≤ h0.size) (F_lastHeartbeat_o1 : Fld Z h0 o1 "com/example/epochcast/epochcast/server/SessionLeases" "lastHeartbeat" "J" (.long q2)) (F_lapse_o1 : Fld Z h0 o1 "com/example/epochcast/epochcast/server/SessionLeases" "lapse" "J" (.long lp)) (hc11 : (0 : Int32) < (lcmpW (va - q2) lp)) (F_tick_o1 : Fld Z h0 o1 "com/example/epochcast/epochcast/server/SessionLeases" "tick" "J" (.long tk)) (hca : (va + tk) = ca) (E_o1 : Exa Z h0 o1 "com/example/epochcast/epochcast/server/SessionLeases") (F_countingFrom_o1 : Fld Z h0 o1 "com/example/epochcast/epochcast/server/SessionLeases" "countingFrom" "J" (.long q2)) (g_o1 : n0 ≤ o1) (F_leases_o1 : Fld Z h0 o1 "com/example/epochcast/epochcast/server/SessionLeases" "leases" "Ljava/util/Map;" (.ref o2)) (F_due_o1 : Fld Z h0 o1 "com/example/epochcast/epochcast/server/SessionLeases" "due" "Ljava/util/PriorityQueue;" (.ref o3)) :
    MetFree l (⟨"com/example/epochcast/epochcast/server/SessionLeases", "heartbeat", "(J)V"⟩ : MethodName) (head1 (Jvm.Cond.code (⟨"com/example/epochcast/epochcast/server/SessionLeases", "heartbeat", "(J)V"⟩ : MethodName) prog_190_method_3_code 3 none :: ws) ({ frames := 0, cells := 0, slots := 0, locals := 0 } : Room)) (fun a U => a = #[(.ref o1), (.long va)] ∧ Z.Warmed39 U.vm ∧ U.heap = h0) (fun _ _ _ _ _ => True) (fun _ U o U' => ∃ v L, o = .returned v ∧ Q19_o1_va Z o1 va q2 lp tk ca o2 o3 h0 n0 v U'.heap L ∧ FrameEnd U o U' L ({ frames := 0, cells := 0, slots := 0, locals := 0 } : Room).cells ({ frames := 0, cells := 0, slots := 0, locals := 0 } : Room).slots) := by
  refine MetFree.of_bodySF (plainFor_of_name pn_19) hisR ?_
  intro p e s m args below meth c s₁ Bd hml0 hP hK
  obtain ⟨rfl, hZ, hh⟩ := hP
  have hx := Bd.exec
  have hby := Bd.bytes
  have hml : c.maxLocals = 3 := hml0
  have hown : s.vm.findClass "com/example/epochcast/epochcast/server/SessionLeases" = some m.cls := findClass_of_methodNamed Bd.named
  have hnm := (name_of_methodNamed Bd.named Bd.method).1
  have X0 : Stand p l e ({ frames := 0, cells := 0, slots := 0, locals := 0 } : Room) s m #[(.ref o1), (.long va)] below meth c s₁ [] 0 0 := Stand.of_body Bd
  have e0 : s₁.heap = h0 := by rw [← hh, Bd.state]; rfl
  have N0 := Fr.nil n0
  have pre0 : ∀ t, Steps p.tables e below (s₁.setTop (mkF m 0 #[.val (.ref o1), .val (.long va), .second] [])) t → Steps p.tables e below (s₁.setTop (entryFrame m #[(.ref o1), (.long va)] 3)) t := fun t k => castTop (by first | (simp [entryFrame, mkF, argsToLocals, Value.category]; done) | rfl) k
  obtain ⟨T1, X1, e1, st1⟩ := getF X0 hx hZ hown (host := "") (Or.inl (hw _ (List.mem_of_getElem? (i := 128) rfl))) Via.refl e0 F_lastHeartbeat_o1 (g := (mkF m 2 #[.val (.ref o1), .val (.long va), .second] [(.ref o1), (.long va)])) rfl rfl (hb hby d19_2)
  obtain ⟨T2, X2, e2, st2⟩ := getF X1 hx hZ hown (host := "") (Or.inl (hw _ (List.mem_of_getElem? (i := 75) rfl))) Via.refl e1 F_lapse_o1 (g := (mkF m 7 #[.val (.ref o1), .val (.long va), .second] [(.ref o1), (.long (va - q2))])) rfl rfl (hb hby d19_7)
  obtain ⟨T3, X3, e3, st3⟩ := getF X2 hx hZ hown (host := "") (Or.inl (hw _ (List.mem_of_getElem? (i := 72) rfl))) Via.refl e2 F_tick_o1 (g := (mkF m 17 #[.val (.ref o1), .val (.long va), .second] [(.ref o1), (.long va), (.ref o1)])) rfl rfl (hb hby d19_17)
  obtain ⟨T4, h4, X4, e4, W4, st4⟩ := putF X3 hx hZ hown (host := "") (Or.inl (hw _ (List.mem_of_getElem? (i := 130) rfl))) Via.refl e3 F_countingFrom_o1 E_o1 (Or.inl (hw _ (List.mem_of_getElem? (i := 131) rfl))) (hw _ (List.mem_of_getElem? (i := 4) rfl)) (ty := .long) (by decide) rfl rfl (g := (mkF m 21 #[.val (.ref o1), .val (.long va), .second] [(.long ca), (.ref o1)])) rfl rfl (hb hby d19_21)
  have Fw4 := F_countingFrom_o1.same W4
  have N4 := Fr.snoc X4 N0 g_o1
  have K4 : Keep h0 h4 [o1] := (Keep.refl h0 [o1]).wr W4 (Or.inl (List.mem_of_getElem? (i := 0) rfl))
  obtain ⟨T5, h5, X5, e5, W5, st5⟩ := putF X4 hx hZ hown (host := "") (Or.inl (hw _ (List.mem_of_getElem? (i := 128) rfl))) Via.refl e4 (F_lastHeartbeat_o1.other W4 (Or.inr (slot_ne (Or.inl (hw _ (List.mem_of_getElem? (i := 129) rfl))) (Or.inl (hw _ (List.mem_of_getElem? (i := 131) rfl))) (by decide) (t := .long) (t' := .long) (by decide) (by decide)))) (E_o1.wr W4) (Or.inl (hw _ (List.mem_of_getElem? (i := 129) rfl))) (hw _ (List.mem_of_getElem? (i := 4) rfl)) (ty := .long) (by decide) rfl rfl (g := (mkF m 26 #[.val (.ref o1), .val (.long va), .second] [(.long va), (.ref o1)])) rfl rfl (hb hby d19_26)
  have Fw5 := (F_lastHeartbeat_o1.other W4 (Or.inr (slot_ne (Or.inl (hw _ (List.mem_of_getElem? (i := 129) rfl))) (Or.inl (hw _ (List.mem_of_getElem? (i := 131) rfl))) (by decide) (t := .long) (t' := .long) (by decide) (by decide)))).same W5
  have N5 := Fr.snoc X5 N4 g_o1
  have K5 : Keep h0 h5 [o1] := K4.wr W5 (Or.inl (List.mem_of_getElem? (i := 0) rfl))
  obtain ⟨fs, hr, hrun, hended, hW, hsame⟩ := X5.leave (v := none) (fun _ => rfl)
  refine ⟨_, _, pre0 _ ?_, hrun, hended, _, _, rfl, ?_, ⟨_, rfl⟩, hW, hsame.mono (by decide) (by decide)⟩
  · show Steps p.tables e below (s₁.setTop (mkF m 0 #[.val (.ref o1), .val (.long va), .second] [])) _
    refine XS.lloadN X0.here hx rfl (hb hby d19_0) rfl ?_
    show Steps p.tables e below (s₁.setTop (mkF m 1 #[.val (.ref o1), .val (.long va), .second] [(.long va)])) _
    refine XS.aloadN X0.here hx rfl (hb hby d19_1) rfl rfl ?_
    show Steps p.tables e below (s₁.setTop (mkF m 2 #[.val (.ref o1), .val (.long va), .second] [(.ref o1), (.long va)])) _
    refine st1 _ ?_
    show Steps p.tables e below (T1.setTop (mkF m 5 #[.val (.ref o1), .val (.long va), .second] [(.long q2), (.long va)])) _
    refine XS.lsub X1.here hx rfl (hb hby d19_5) rfl ?_
    show Steps p.tables e below (T1.setTop (mkF m 6 #[.val (.ref o1), .val (.long va), .second] [(.long (va - q2))])) _
    refine XS.aloadN X1.here hx rfl (hb hby d19_6) rfl rfl ?_
    show Steps p.tables e below (T1.setTop (mkF m 7 #[.val (.ref o1), .val (.long va), .second] [(.ref o1), (.long (va - q2))])) _
    refine st2 _ ?_
    show Steps p.tables e below (T2.setTop (mkF m 10 #[.val (.ref o1), .val (.long va), .second] [(.long lp), (.long (va - q2))])) _
    refine XS.lcmp X2.here hx rfl (hb hby d19_10) rfl ?_
    show Steps p.tables e below (T2.setTop (mkF m 11 #[.val (.ref o1), .val (.long va), .second] [(.int (lcmpW (va - q2) lp))])) _
    refine XS.ifNo X2.here hx rfl (hb hby d19_11) rfl ((if0 _ _).trans (tlt hc11).2.2.2) ?_
    show Steps p.tables e below (T2.setTop (mkF m 14 #[.val (.ref o1), .val (.long va), .second] [])) _
    refine XS.aloadN X2.here hx rfl (hb hby d19_14) rfl rfl ?_
    show Steps p.tables e below (T2.setTop (mkF m 15 #[.val (.ref o1), .val (.long va), .second] [(.ref o1)])) _
    refine XS.lloadN X2.here hx rfl (hb hby d19_15) rfl ?_
    show Steps p.tables e below (T2.setTop (mkF m 16 #[.val (.ref o1), .val (.long va), .second] [(.long va), (.ref o1)])) _
    refine XS.aloadN X2.here hx rfl (hb hby d19_16) rfl rfl ?_
    show Steps p.tables e below (T2.setTop (mkF m 17 #[.val (.ref o1), .val (.long va), .second] [(.ref o1), (.long va), (.ref o1)])) _
    refine st3 _ ?_
    show Steps p.tables e below (T3.setTop (mkF m 20 #[.val (.ref o1), .val (.long va), .second] [(.long tk), (.long va), (.ref o1)])) _
    refine XS.ladd X3.here hx rfl (hb hby d19_20) rfl ?_
    show Steps p.tables e below (T3.setTop (mkF m 21 #[.val (.ref o1), .val (.long va), .second] [(.long (va + tk)), (.ref o1)])) _
    rw [hca]
    show Steps p.tables e below (T3.setTop (mkF m 21 #[.val (.ref o1), .val (.long va), .second] [(.long ca), (.ref o1)])) _
    refine st4 _ ?_
    show Steps p.tables e below (T4.setTop (mkF m 24 #[.val (.ref o1), .val (.long va), .second] [])) _
    refine XS.aloadN X4.here hx rfl (hb hby d19_24) rfl rfl ?_
    show Steps p.tables e below (T4.setTop (mkF m 25 #[.val (.ref o1), .val (.long va), .second] [(.ref o1)])) _
    refine XS.lloadN X4.here hx rfl (hb hby d19_25) rfl ?_
    show Steps p.tables e below (T4.setTop (mkF m 26 #[.val (.ref o1), .val (.long va), .second] [(.long va), (.ref o1)])) _
    refine st5 _ ?_
    show Steps p.tables e below (T5.setTop (mkF m 29 #[.val (.ref o1), .val (.long va), .second] [])) _
    exact X5.returnOut hx Bd.returns (hb hby d19_29) hr
  · show Q19_o1_va Z o1 va q2 lp tk ca o2 o3 h0 n0 _ T5.heap _
    rw [e5]
    exact ⟨rfl, N5, K5, Fw5, ((F_lapse_o1.other W4 (Or.inr (slot_ne (Or.inr (hw _ (List.mem_of_getElem? (i := 76) rfl))) (Or.inl (hw _ (List.mem_of_getElem? (i := 131) rfl))) (by decide) (t := .long) (t' := .long) (by decide) (by decide)))).other W5 (Or.inr (slot_ne (Or.inr (hw _ (List.mem_of_getElem? (i := 76) rfl))) (Or.inl (hw _ (List.mem_of_getElem? (i := 129) rfl))) (by decide) (t := .long) (t' := .long) (by decide) (by decide)))), ((F_tick_o1.other W4 (Or.inr (slot_ne (Or.inr (hw _ (List.mem_of_getElem? (i := 73) rfl))) (Or.inl (hw _ (List.mem_of_getElem? (i := 131) rfl))) (by decide) (t := .long) (t' := .long) (by decide) (by decide)))).other W5 (Or.inr (slot_ne (Or.inr (hw _ (List.mem_of_getElem? (i := 73) rfl))) (Or.inl (hw _ (List.mem_of_getElem? (i := 129) rfl))) (by decide) (t := .long) (t' := .long) (by decide) (by decide)))), ((E_o1.wr W4).wr W5), (Fw4.other W5 (Or.inr (slot_ne (Or.inl (hw _ (List.mem_of_getElem? (i := 131) rfl))) (Or.inl (hw _ (List.mem_of_getElem? (i := 129) rfl))) (by decide) (t := .long) (t' := .long) (by decide) (by decide)))), ((F_leases_o1.other W4 (Or.inr (slot_ne (Or.inr (hw _ (List.mem_of_getElem? (i := 29) rfl))) (Or.inl (hw _ (List.mem_of_getElem? (i := 131) rfl))) (by decide) (t := (.object "java/util/Map")) (t' := .long) (by decide) (by decide)))).other W5 (Or.inr (slot_ne (Or.inr (hw _ (List.mem_of_getElem? (i := 29) rfl))) (Or.inl (hw _ (List.mem_of_getElem? (i := 129) rfl))) (by decide) (t := (.object "java/util/Map")) (t' := .long) (by decide) (by decide)))), ((F_due_o1.other W4 (Or.inr (slot_ne (Or.inr (hw _ (List.mem_of_getElem? (i := 60) rfl))) (Or.inl (hw _ (List.mem_of_getElem? (i := 131) rfl))) (by decide) (t := (.object "java/util/PriorityQueue")) (t' := .long) (by decide) (by decide)))).other W5 (Or.inr (slot_ne (Or.inr (hw _ (List.mem_of_getElem? (i := 60) rfl))) (Or.inl (hw _ (List.mem_of_getElem? (i := 129) rfl))) (by decide) (t := (.object "java/util/PriorityQueue")) (t' := .long) (by decide) (by decide))))⟩
def Q19_o1_vb (Z : State) (o1 : Addr) (vb : Int64) (va : Int64) (lp : Int64) (tk : Int64) (cb : Int64) (ca : Int64) (o2 : Addr) (o3 : Addr) (h0 : Heap) (n0 : Nat) (v : Option Value) (h : Heap) (L : List Loc) : Prop := v = none ∧ Fr n0 L ∧ Keep h0 h [o1] ∧ Fld Z h o1 "com/example/epochcast/epochcast/server/SessionLeases" "lastHeartbeat" "J" (.long vb) ∧ Fld Z h o1 "com/example/epochcast/epochcast/server/SessionLeases" "lapse" "J" (.long lp) ∧ Fld Z h o1 "com/example/epochcast/epochcast/server/SessionLeases" "tick" "J" (.long tk) ∧ Exa Z h o1 "com/example/epochcast/epochcast/server/SessionLeases" ∧ Fld Z h o1 "com/example/epochcast/epochcast/server/SessionLeases" "countingFrom" "J" (.long cb) ∧ Fld Z h o1 "com/example/epochcast/epochcast/server/SessionLeases" "leases" "Ljava/util/Map;" (.ref o2) ∧ Fld Z h o1 "com/example/epochcast/epochcast/server/SessionLeases" "due" "Ljava/util/PriorityQueue;" (.ref o3)
set_option maxRecDepth 65536 in
set_option maxHeartbeats 40000000 in
theorem rm19_o1_vb (l : Launch) (Z : State) (a0 : Array Value) (hw : ∀ d ∈ tables_1, d.before a0 Z = true) (ws : List Jvm.Cond) (o1 : Addr) (vb : Int64) (va : Int64) (lp : Int64) (tk : Int64) (cb : Int64) (ca : Int64) (o2 : Addr) (o3 : Addr) (h0 : Heap) (n0 : Nat) (Z0 : n0 ≤ h0.size) (F_lastHeartbeat_o1 : Fld Z h0 o1 "com/example/epochcast/epochcast/server/SessionLeases" "lastHeartbeat" "J" (.long va)) (F_lapse_o1 : Fld Z h0 o1 "com/example/epochcast/epochcast/server/SessionLeases" "lapse" "J" (.long lp)) (hc11 : (0 : Int32) < (lcmpW (vb - va) lp)) (F_tick_o1 : Fld Z h0 o1 "com/example/epochcast/epochcast/server/SessionLeases" "tick" "J" (.long tk)) (hcb : (vb + tk) = cb) (E_o1 : Exa Z h0 o1 "com/example/epochcast/epochcast/server/SessionLeases") (F_countingFrom_o1 : Fld Z h0 o1 "com/example/epochcast/epochcast/server/SessionLeases" "countingFrom" "J" (.long ca)) (g_o1 : n0 ≤ o1) (F_leases_o1 : Fld Z h0 o1 "com/example/epochcast/epochcast/server/SessionLeases" "leases" "Ljava/util/Map;" (.ref o2)) (F_due_o1 : Fld Z h0 o1 "com/example/epochcast/epochcast/server/SessionLeases" "due" "Ljava/util/PriorityQueue;" (.ref o3)) :
    MetFree l (⟨"com/example/epochcast/epochcast/server/SessionLeases", "heartbeat", "(J)V"⟩ : MethodName) (head1 (Jvm.Cond.code (⟨"com/example/epochcast/epochcast/server/SessionLeases", "heartbeat", "(J)V"⟩ : MethodName) prog_190_method_3_code 3 none :: ws) ({ frames := 0, cells := 0, slots := 0, locals := 0 } : Room)) (fun a U => a = #[(.ref o1), (.long vb)] ∧ Z.Warmed39 U.vm ∧ U.heap = h0) (fun _ _ _ _ _ => True) (fun _ U o U' => ∃ v L, o = .returned v ∧ Q19_o1_vb Z o1 vb va lp tk cb ca o2 o3 h0 n0 v U'.heap L ∧ FrameEnd U o U' L ({ frames := 0, cells := 0, slots := 0, locals := 0 } : Room).cells ({ frames := 0, cells := 0, slots := 0, locals := 0 } : Room).slots) := by
  refine MetFree.of_bodySF (plainFor_of_name pn_19) hisR ?_
  intro p e s m args below meth c s₁ Bd hml0 hP hK
  obtain ⟨rfl, hZ, hh⟩ := hP
  have hx := Bd.exec
  have hby := Bd.bytes
  have hml : c.maxLocals = 3 := hml0
  have hown : s.vm.findClass "com/example/epochcast/epochcast/server/SessionLeases" = some m.cls := findClass_of_methodNamed Bd.named
  have hnm := (name_of_methodNamed Bd.named Bd.method).1
  have X0 : Stand p l e ({ frames := 0, cells := 0, slots := 0, locals := 0 } : Room) s m #[(.ref o1), (.long vb)] below meth c s₁ [] 0 0 := Stand.of_body Bd
  have e0 : s₁.heap = h0 := by rw [← hh, Bd.state]; rfl
  have N0 := Fr.nil n0
  have pre0 : ∀ t, Steps p.tables e below (s₁.setTop (mkF m 0 #[.val (.ref o1), .val (.long vb), .second] [])) t → Steps p.tables e below (s₁.setTop (entryFrame m #[(.ref o1), (.long vb)] 3)) t := fun t k => castTop (by first | (simp [entryFrame, mkF, argsToLocals, Value.category]; done) | rfl) k
  obtain ⟨T1, X1, e1, st1⟩ := getF X0 hx hZ hown (host := "") (Or.inl (hw _ (List.mem_of_getElem? (i := 128) rfl))) Via.refl e0 F_lastHeartbeat_o1 (g := (mkF m 2 #[.val (.ref o1), .val (.long vb), .second] [(.ref o1), (.long vb)])) rfl rfl (hb hby d19_2)
  obtain ⟨T2, X2, e2, st2⟩ := getF X1 hx hZ hown (host := "") (Or.inl (hw _ (List.mem_of_getElem? (i := 75) rfl))) Via.refl e1 F_lapse_o1 (g := (mkF m 7 #[.val (.ref o1), .val (.long vb), .second] [(.ref o1), (.long (vb - va))])) rfl rfl (hb hby d19_7)
  obtain ⟨T3, X3, e3, st3⟩ := getF X2 hx hZ hown (host := "") (Or.inl (hw _ (List.mem_of_getElem? (i := 72) rfl))) Via.refl e2 F_tick_o1 (g := (mkF m 17 #[.val (.ref o1), .val (.long vb), .second] [(.ref o1), (.long vb), (.ref o1)])) rfl rfl (hb hby d19_17)
  obtain ⟨T4, h4, X4, e4, W4, st4⟩ := putF X3 hx hZ hown (host := "") (Or.inl (hw _ (List.mem_of_getElem? (i := 130) rfl))) Via.refl e3 F_countingFrom_o1 E_o1 (Or.inl (hw _ (List.mem_of_getElem? (i := 131) rfl))) (hw _ (List.mem_of_getElem? (i := 4) rfl)) (ty := .long) (by decide) rfl rfl (g := (mkF m 21 #[.val (.ref o1), .val (.long vb), .second] [(.long cb), (.ref o1)])) rfl rfl (hb hby d19_21)
  have Fw4 := F_countingFrom_o1.same W4
  have N4 := Fr.snoc X4 N0 g_o1
  have K4 : Keep h0 h4 [o1] := (Keep.refl h0 [o1]).wr W4 (Or.inl (List.mem_of_getElem? (i := 0) rfl))
  obtain ⟨T5, h5, X5, e5, W5, st5⟩ := putF X4 hx hZ hown (host := "") (Or.inl (hw _ (List.mem_of_getElem? (i := 128) rfl))) Via.refl e4 (F_lastHeartbeat_o1.other W4 (Or.inr (slot_ne (Or.inl (hw _ (List.mem_of_getElem? (i := 129) rfl))) (Or.inl (hw _ (List.mem_of_getElem? (i := 131) rfl))) (by decide) (t := .long) (t' := .long) (by decide) (by decide)))) (E_o1.wr W4) (Or.inl (hw _ (List.mem_of_getElem? (i := 129) rfl))) (hw _ (List.mem_of_getElem? (i := 4) rfl)) (ty := .long) (by decide) rfl rfl (g := (mkF m 26 #[.val (.ref o1), .val (.long vb), .second] [(.long vb), (.ref o1)])) rfl rfl (hb hby d19_26)
  have Fw5 := (F_lastHeartbeat_o1.other W4 (Or.inr (slot_ne (Or.inl (hw _ (List.mem_of_getElem? (i := 129) rfl))) (Or.inl (hw _ (List.mem_of_getElem? (i := 131) rfl))) (by decide) (t := .long) (t' := .long) (by decide) (by decide)))).same W5
  have N5 := Fr.snoc X5 N4 g_o1
  have K5 : Keep h0 h5 [o1] := K4.wr W5 (Or.inl (List.mem_of_getElem? (i := 0) rfl))
  obtain ⟨fs, hr, hrun, hended, hW, hsame⟩ := X5.leave (v := none) (fun _ => rfl)
  refine ⟨_, _, pre0 _ ?_, hrun, hended, _, _, rfl, ?_, ⟨_, rfl⟩, hW, hsame.mono (by decide) (by decide)⟩
  · show Steps p.tables e below (s₁.setTop (mkF m 0 #[.val (.ref o1), .val (.long vb), .second] [])) _
    refine XS.lloadN X0.here hx rfl (hb hby d19_0) rfl ?_
    show Steps p.tables e below (s₁.setTop (mkF m 1 #[.val (.ref o1), .val (.long vb), .second] [(.long vb)])) _
    refine XS.aloadN X0.here hx rfl (hb hby d19_1) rfl rfl ?_
    show Steps p.tables e below (s₁.setTop (mkF m 2 #[.val (.ref o1), .val (.long vb), .second] [(.ref o1), (.long vb)])) _
    refine st1 _ ?_
    show Steps p.tables e below (T1.setTop (mkF m 5 #[.val (.ref o1), .val (.long vb), .second] [(.long va), (.long vb)])) _
    refine XS.lsub X1.here hx rfl (hb hby d19_5) rfl ?_
    show Steps p.tables e below (T1.setTop (mkF m 6 #[.val (.ref o1), .val (.long vb), .second] [(.long (vb - va))])) _
    refine XS.aloadN X1.here hx rfl (hb hby d19_6) rfl rfl ?_
    show Steps p.tables e below (T1.setTop (mkF m 7 #[.val (.ref o1), .val (.long vb), .second] [(.ref o1), (.long (vb - va))])) _
    refine st2 _ ?_
    show Steps p.tables e below (T2.setTop (mkF m 10 #[.val (.ref o1), .val (.long vb), .second] [(.long lp), (.long (vb - va))])) _
    refine XS.lcmp X2.here hx rfl (hb hby d19_10) rfl ?_
    show Steps p.tables e below (T2.setTop (mkF m 11 #[.val (.ref o1), .val (.long vb), .second] [(.int (lcmpW (vb - va) lp))])) _
    refine XS.ifNo X2.here hx rfl (hb hby d19_11) rfl ((if0 _ _).trans (tlt hc11).2.2.2) ?_
    show Steps p.tables e below (T2.setTop (mkF m 14 #[.val (.ref o1), .val (.long vb), .second] [])) _
    refine XS.aloadN X2.here hx rfl (hb hby d19_14) rfl rfl ?_
    show Steps p.tables e below (T2.setTop (mkF m 15 #[.val (.ref o1), .val (.long vb), .second] [(.ref o1)])) _
    refine XS.lloadN X2.here hx rfl (hb hby d19_15) rfl ?_
    show Steps p.tables e below (T2.setTop (mkF m 16 #[.val (.ref o1), .val (.long vb), .second] [(.long vb), (.ref o1)])) _
    refine XS.aloadN X2.here hx rfl (hb hby d19_16) rfl rfl ?_
    show Steps p.tables e below (T2.setTop (mkF m 17 #[.val (.ref o1), .val (.long vb), .second] [(.ref o1), (.long vb), (.ref o1)])) _
    refine st3 _ ?_
    show Steps p.tables e below (T3.setTop (mkF m 20 #[.val (.ref o1), .val (.long vb), .second] [(.long tk), (.long vb), (.ref o1)])) _
    refine XS.ladd X3.here hx rfl (hb hby d19_20) rfl ?_
    show Steps p.tables e below (T3.setTop (mkF m 21 #[.val (.ref o1), .val (.long vb), .second] [(.long (vb + tk)), (.ref o1)])) _
    rw [hcb]
    show Steps p.tables e below (T3.setTop (mkF m 21 #[.val (.ref o1), .val (.long vb), .second] [(.long cb), (.ref o1)])) _
    refine st4 _ ?_
    show Steps p.tables e below (T4.setTop (mkF m 24 #[.val (.ref o1), .val (.long vb), .second] [])) _
    refine XS.aloadN X4.here hx rfl (hb hby d19_24) rfl rfl ?_
    show Steps p.tables e below (T4.setTop (mkF m 25 #[.val (.ref o1), .val (.long vb), .second] [(.ref o1)])) _
    refine XS.lloadN X4.here hx rfl (hb hby d19_25) rfl ?_
    show Steps p.tables e below (T4.setTop (mkF m 26 #[.val (.ref o1), .val (.long vb), .second] [(.long vb), (.ref o1)])) _
    refine st5 _ ?_
    show Steps p.tables e below (T5.setTop (mkF m 29 #[.val (.ref o1), .val (.long vb), .second] [])) _
    exact X5.returnOut hx Bd.returns (hb hby d19_29) hr
  · show Q19_o1_vb Z o1 vb va lp tk cb ca o2 o3 h0 n0 _ T5.heap _
    rw [e5]
    exact ⟨rfl, N5, K5, Fw5, ((F_lapse_o1.other W4 (Or.inr (slot_ne (Or.inr (hw _ (List.mem_of_getElem? (i := 76) rfl))) (Or.inl (hw _ (List.mem_of_getElem? (i := 131) rfl))) (by decide) (t := .long) (t' := .long) (by decide) (by decide)))).other W5 (Or.inr (slot_ne (Or.inr (hw _ (List.mem_of_getElem? (i := 76) rfl))) (Or.inl (hw _ (List.mem_of_getElem? (i := 129) rfl))) (by decide) (t := .long) (t' := .long) (by decide) (by decide)))), ((F_tick_o1.other W4 (Or.inr (slot_ne (Or.inr (hw _ (List.mem_of_getElem? (i := 73) rfl))) (Or.inl (hw _ (List.mem_of_getElem? (i := 131) rfl))) (by decide) (t := .long) (t' := .long) (by decide) (by decide)))).other W5 (Or.inr (slot_ne (Or.inr (hw _ (List.mem_of_getElem? (i := 73) rfl))) (Or.inl (hw _ (List.mem_of_getElem? (i := 129) rfl))) (by decide) (t := .long) (t' := .long) (by decide) (by decide)))), ((E_o1.wr W4).wr W5), (Fw4.other W5 (Or.inr (slot_ne (Or.inl (hw _ (List.mem_of_getElem? (i := 131) rfl))) (Or.inl (hw _ (List.mem_of_getElem? (i := 129) rfl))) (by decide) (t := .long) (t' := .long) (by decide) (by decide)))), ((F_leases_o1.other W4 (Or.inr (slot_ne (Or.inr (hw _ (List.mem_of_getElem? (i := 29) rfl))) (Or.inl (hw _ (List.mem_of_getElem? (i := 131) rfl))) (by decide) (t := (.object "java/util/Map")) (t' := .long) (by decide) (by decide)))).other W5 (Or.inr (slot_ne (Or.inr (hw _ (List.mem_of_getElem? (i := 29) rfl))) (Or.inl (hw _ (List.mem_of_getElem? (i := 129) rfl))) (by decide) (t := (.object "java/util/Map")) (t' := .long) (by decide) (by decide)))), ((F_due_o1.other W4 (Or.inr (slot_ne (Or.inr (hw _ (List.mem_of_getElem? (i := 60) rfl))) (Or.inl (hw _ (List.mem_of_getElem? (i := 131) rfl))) (by decide) (t := (.object "java/util/PriorityQueue")) (t' := .long) (by decide) (by decide)))).other W5 (Or.inr (slot_ne (Or.inr (hw _ (List.mem_of_getElem? (i := 60) rfl))) (Or.inl (hw _ (List.mem_of_getElem? (i := 129) rfl))) (by decide) (t := (.object "java/util/PriorityQueue")) (t' := .long) (by decide) (by decide))))⟩
def Q0_kgtgt (Z : State) (p1 : Int32) (q2 : Int64) (q3 : Int64) (q4 : Int64) (q5 : Int64) (vt : Int32) (tk : Int64) (lp : Int64) (va : Int64) (vb : Int64) (vn : Int64) (w_MILLISECONDS : Addr) (w_DEFAULTCAPACITY_EMPTY_ELEMENTDATA : Addr) (ca : Int64) (cb : Int64) (vm1 : Int64) (vmm : Int64) (bm : Int64) (bl : Int64) (bl1 : Int64) (h0 : Heap) (n0 : Nat) (v : Option Value) (h : Heap) (L : List Loc) : Prop := v = some (.int 1) ∧ Fr n0 L ∧ True
set_option maxRecDepth 65536 in
set_option maxHeartbeats 40000000 in
theorem rm0_kgtgt (l : Launch) (Z : State) (a0 : Array Value) (hw : ∀ d ∈ tables_1, d.before a0 Z = true) (ws : List Jvm.Cond) (p1 : Int32) (q2 : Int64) (q3 : Int64) (q4 : Int64) (q5 : Int64) (vt : Int32) (tk : Int64) (lp : Int64) (va : Int64) (vb : Int64) (vn : Int64) (w_MILLISECONDS : Addr) (w_DEFAULTCAPACITY_EMPTY_ELEMENTDATA : Addr) (ca : Int64) (cb : Int64) (vm1 : Int64) (vmm : Int64) (bm : Int64) (bl : Int64) (bl1 : Int64) (h0 : Heap) (n0 : Nat) (Z0 : n0 ≤ h0.size) (ht : (p1 &&& (2147483647 : Int32)) = vt) (htk : ((vt.toInt64) * (1000000 : Int64)) = tk) (hlp : (tk + (tk / (4 : Int64))) = lp) (hva : (q2 + q3) = va) (hvb : (va + q4) = vb) (hvn : (vb + q5) = vn) (S_MILLISECONDS : Sta Z h0 "java/util/concurrent/TimeUnit" "MILLISECONDS" "Ljava/util/concurrent/TimeUnit;" (.ref w_MILLISECONDS)) (F_scale_w_MILLISECONDS : Fld Z h0 w_MILLISECONDS "java/util/concurrent/TimeUnit" "scale" "J" (.long 1000000)) (F_maxNanos_w_MILLISECONDS : Fld Z h0 w_MILLISECONDS "java/util/concurrent/TimeUnit" "maxNanos" "J" (.long 9223372036854)) (hc22 : ¬ ((0 : Int32) < (lcmpW (vt.toInt64) (9223372036854 : Int64)))) (hc34 : ¬ ((lcmpW (vt.toInt64) (-9223372036854 : Int64)) < (0 : Int32))) (E_w_MILLISECONDS : Exa Z h0 w_MILLISECONDS "java/util/concurrent/TimeUnit") (S_DEFAULTCAPACITY_EMPTY_ELEMENTDATA : Sta Z h0 "java/util/ArrayList" "DEFAULTCAPACITY_EMPTY_ELEMENTDATA" "[Ljava/lang/Object;" (.ref w_DEFAULTCAPACITY_EMPTY_ELEMENTDATA)) (hc11 : (0 : Int32) < (lcmpW (va - q2) lp)) (hca : (va + tk) = ca) (hc11_o1_vb : (0 : Int32) < (lcmpW (vb - va) lp)) (hcb : (vb + tk) = cb) (hc90 : (0 : Int32) < (lcmpW (va - q2) lp)) (hc112 : (0 : Int32) < (lcmpW (vb - va) lp)) (hm1 : (cb - tk) = vm1) (hm : (vm1 - (1 : Int64)) = vmm) (hbm : (vb - (1 : Int64)) = bm) (hbl : (vb + lp) = bl) (hbl1 : (bl + (1 : Int64)) = bl1) :
    MetFree l x (head1 (Jvm.Cond.code x code maxLocals ret :: ws) room_1) (fun a U => a = #[(.int p1), (.long q2), (.long q3), (.long q4), (.long q5)] ∧ Z.Warmed39 U.vm ∧ U.heap = h0) (fun _ _ _ _ _ => True) (fun _ U o U' => ∃ v L, o = .returned v ∧ Q0_kgtgt Z p1 q2 q3 q4 q5 vt tk lp va vb vn w_MILLISECONDS w_DEFAULTCAPACITY_EMPTY_ELEMENTDATA ca cb vm1 vmm bm bl bl1 h0 n0 v U'.heap L ∧ FrameEnd U o U' L room_1.cells room_1.slots) := by
  refine MetFree.of_bodySF (plainFor_of_name pn_0) hisR ?_
  intro p e s m args below meth c s₁ Bd hml0 hP hK
  obtain ⟨rfl, hZ, hh⟩ := hP
  have hx := Bd.exec
  have hby := Bd.bytes
  have hml : c.maxLocals = 29 := hml0
  have hown : s.vm.findClass "com/example/epochcast/epochcast/server/SessionLeasesHeartbeatPinLaw" = some m.cls := findClass_of_methodNamed Bd.named
  have hnm := (name_of_methodNamed Bd.named Bd.method).1
  have X0 : Stand p l e room_1 s m #[(.int p1), (.long q2), (.long q3), (.long q4), (.long q5)] below meth c s₁ [] 0 0 := Stand.of_body Bd
  have e0 : s₁.heap = h0 := by rw [← hh, Bd.state]; rfl
  have N0 := Fr.nil n0
  have pre0 : ∀ t, Steps p.tables e below (s₁.setTop (mkF m 0 #[.val (.int p1), .val (.long q2), .second, .val (.long q3), .second, .val (.long q4), .second, .val (.long q5), .second, .unset, .unset, .unset, .unset, .unset, .unset, .unset, .unset, .unset, .unset, .unset, .unset, .unset, .unset, .unset, .unset, .unset, .unset, .unset, .unset] [])) t → Steps p.tables e below (s₁.setTop (entryFrame m #[(.int p1), (.long q2), (.long q3), (.long q4), (.long q5)] maxLocals)) t := fun t k => castTop (by first | (simp [entryFrame, mkF, argsToLocals, Value.category, maxLocals]; done) | rfl) k
  obtain ⟨T1, h1, X1, e1, E1, A1, D1, -, st1⟩ := newO X0 hx hZ hown (hw _ (List.mem_of_getElem? (i := 3) rfl)) (hw _ (List.mem_of_getElem? (i := 4) rfl)) (hw _ (List.mem_of_getElem? (i := 5) rfl)) e0 (g := (mkF m 45 #[.val (.int p1), .val (.long q2), .second, .val (.long q3), .second, .val (.long q4), .second, .val (.long q5), .second, .val (.int vt), .val (.long tk), .second, .val (.long lp), .second, .val (.long va), .second, .val (.long vb), .second, .val (.long vn), .second, .unset, .unset, .unset, .unset, .unset, .unset, .unset, .unset, .unset] [])) rfl (hb hby at_45) (by decide) (by decide)
  obtain ⟨b1, g1⟩ : ∃ z, z = h0.size := ⟨_, rfl⟩
  have s_b1 : h0.size ≤ b1 := Nat.le_of_eq g1.symm
  have g_b1 : n0 ≤ b1 := Nat.le_trans Z0 s_b1
  have sz_b1 : h0.size ≤ b1 := s_b1
  rw [← g1] at A1 D1 st1
  have K1 : Keep h0 h1 [] := (Keep.refl h0 []).ext E1
  have F_leases_b1 : Fld Z h1 b1 "com/example/epochcast/epochcast/server/SessionLeases" "leases" "Ljava/util/Map;" .null := D1 (Or.inr (hw _ (List.mem_of_getElem? (i := 29) rfl))) (ty := (.object "java/util/Map")) (by decide)
  have F_due_b1 : Fld Z h1 b1 "com/example/epochcast/epochcast/server/SessionLeases" "due" "Ljava/util/PriorityQueue;" .null := D1 (Or.inr (hw _ (List.mem_of_getElem? (i := 60) rfl))) (ty := (.object "java/util/PriorityQueue")) (by decide)
  have F_tick_b1 : Fld Z h1 b1 "com/example/epochcast/epochcast/server/SessionLeases" "tick" "J" (.long 0) := D1 (Or.inr (hw _ (List.mem_of_getElem? (i := 73) rfl))) (ty := .long) (by decide)
  have F_lapse_b1 : Fld Z h1 b1 "com/example/epochcast/epochcast/server/SessionLeases" "lapse" "J" (.long 0) := D1 (Or.inr (hw _ (List.mem_of_getElem? (i := 76) rfl))) (ty := .long) (by decide)
  have F_lastHeartbeat_b1 : Fld Z h1 b1 "com/example/epochcast/epochcast/server/SessionLeases" "lastHeartbeat" "J" (.long 0) := D1 (Or.inl (hw _ (List.mem_of_getElem? (i := 129) rfl))) (ty := .long) (by decide)
  have F_countingFrom_b1 : Fld Z h1 b1 "com/example/epochcast/epochcast/server/SessionLeases" "countingFrom" "J" (.long 0) := D1 (Or.inl (hw _ (List.mem_of_getElem? (i := 131) rfl))) (ty := .long) (by decide)
  obtain ⟨_, _, ⟨T2, L2, k2, n2⟩, -, X2, ⟨Lc2, hQ2, l2, y2, z2⟩, st2⟩ := X1.specialBack hx (y := (⟨"com/example/epochcast/epochcast/server/SessionLeases", "<init>", "(I)V"⟩ : MethodName)) rfl hown (mvT hZ (hw _ (List.mem_of_getElem? (i := 6) rfl))) (mvT hZ (hw _ (List.mem_of_getElem? (i := 7) rfl))) (mvT hZ (hw _ (List.mem_of_getElem? (i := 8) rfl))) (by decide) (backOf (W := 1) (rm1_o1_vt l Z a0 hw [] b1 vt w_MILLISECONDS tk lp h1 n0 (Nat.le_trans Z0 K1.1) A1 F_leases_b1 g_b1 F_due_b1 (own_sta_keep S_MILLISECONDS K1) (F_scale_w_MILLISECONDS.keep K1 nin0) (Ne.symm (Nat.ne_of_lt (Nat.lt_of_lt_of_le (F_scale_w_MILLISECONDS).lt sz_b1))) (F_maxNanos_w_MILLISECONDS.keep K1 nin0) hc22 hc34 (E_w_MILLISECONDS.keep K1) htk F_tick_b1 hlp F_lapse_b1 F_lastHeartbeat_b1 F_countingFrom_b1) hZ (hw _ (List.mem_of_getElem? (i := 8) rfl)) (hw _ (List.mem_of_getElem? (i := 5) rfl)) (by decide) (by decide)) (g := (mkF m 51 #[.val (.int p1), .val (.long q2), .second, .val (.long q3), .second, .val (.long q4), .second, .val (.long q5), .second, .val (.int vt), .val (.long tk), .second, .val (.long lp), .second, .val (.long va), .second, .val (.long vb), .second, .val (.long vn), .second, .unset, .unset, .unset, .unset, .unset, .unset, .unset, .unset, .unset] [(.int vt), (.ref b1), (.ref b1)])) rfl (by rw [hml]; rfl) (Steps.refl _) (a := b1) (argsL := [(.int vt)]) (rest := [(.ref b1)]) (lenOf pd__I_V rfl) rfl (by show 2 * 0 + _ ≤ _; exact Nat.le_of_eq rfl) (hb hby at_51) (fun _ _ => ⟨rfl, e1, (by decide : 1 + 3 ≤ _), (by decide : 6 + 23 ≤ _)⟩)
  dsimp only [Pt.U, Pt.locs, Pt.cells, Pt.slots] at X2 l2 y2 z2 st2 hQ2
  subst l2 y2 z2
  obtain ⟨b2c1, b2c2, b2c3, kc2kd4, rfl, N2q, Kq2, s_b2c1, s_b2c2, s_b2c3, nq_b2c1_b2c2, nq_b2c1_b2c3, nq_b2c2_b2c3, fq2_0, fq2_1, fq2_2, fq2_3, fq2_4, fq2_5, fq2_6, fq2_7, fq2_8, fq2_9, fq2_10, fq2_11, fq2_12, fq2_13, fq2_14, fq2_15, fq2_16, fq2_17⟩ := hQ2
  have N2 := Fr.app N0 N2q
  have g_b2c1 : n0 ≤ b2c1 := Nat.le_trans (Nat.le_trans Z0 K1.1) s_b2c1
  have sz_b2c1 : h0.size ≤ b2c1 := Nat.le_trans K1.1 s_b2c1
  have g_b2c2 : n0 ≤ b2c2 := Nat.le_trans (Nat.le_trans Z0 K1.1) s_b2c2
  have sz_b2c2 : h0.size ≤ b2c2 := Nat.le_trans K1.1 s_b2c2
  have g_b2c3 : n0 ≤ b2c3 := Nat.le_trans (Nat.le_trans Z0 K1.1) s_b2c3
  have sz_b2c3 : h0.size ≤ b2c3 := Nat.le_trans K1.1 s_b2c3
  have K2 : Keep h0 T2.heap [] := K1.trans Kq2 (allS (Or.inr sz_b1) all0)
  obtain ⟨T3, h3, X3, e3, E3, A3, D3, -, st3⟩ := newO X2 hx hZ hown (hw _ (List.mem_of_getElem? (i := 77) rfl)) (hw _ (List.mem_of_getElem? (i := 78) rfl)) (hw _ (List.mem_of_getElem? (i := 79) rfl)) rfl (g := (mkF m 58 #[.val (.int p1), .val (.long q2), .second, .val (.long q3), .second, .val (.long q4), .second, .val (.long q5), .second, .val (.int vt), .val (.long tk), .second, .val (.long lp), .second, .val (.long va), .second, .val (.long vb), .second, .val (.long vn), .second, .val (.ref b1), .unset, .unset, .unset, .unset, .unset, .unset, .unset, .unset] [(.ref b1)])) rfl (hb hby at_58) (by decide) (by decide)
  obtain ⟨b3, g3⟩ : ∃ z, z = T2.heap.size := ⟨_, rfl⟩
  have s_b3 : T2.heap.size ≤ b3 := Nat.le_of_eq g3.symm
  have g_b3 : n0 ≤ b3 := Nat.le_trans (Nat.le_trans Z0 K2.1) s_b3
  have sz_b3 : h0.size ≤ b3 := Nat.le_trans K2.1 s_b3
  rw [← g3] at A3 D3 st3
  have K3 : Keep h0 h3 [] := K2.ext E3
  have F_modCount_b3 : Fld Z h3 b3 "java/util/AbstractList" "modCount" "I" (.int 0) := D3 (Or.inl (hw _ (List.mem_of_getElem? (i := 92) rfl))) (ty := .int) (by decide)
  have F_elementData_b3 : Fld Z h3 b3 "java/util/ArrayList" "elementData" "[Ljava/lang/Object;" .null := D3 (Or.inl (hw _ (List.mem_of_getElem? (i := 95) rfl))) (ty := (.array (.object "java/lang/Object"))) (by decide)
  have F_size_b3 : Fld Z h3 b3 "java/util/ArrayList" "size" "I" (.int 0) := D3 (Or.inl (hw _ (List.mem_of_getElem? (i := 169) rfl))) (ty := .int) (by decide)
  obtain ⟨_, _, ⟨T4, L4, k4, n4⟩, -, X4, ⟨Lc4, hQ4, l4, y4, z4⟩, st4⟩ := X3.specialBack hx (y := (⟨"java/util/ArrayList", "<init>", "()V"⟩ : MethodName)) rfl hown (mvT hZ (hw _ (List.mem_of_getElem? (i := 80) rfl))) (mvT hZ (hw _ (List.mem_of_getElem? (i := 81) rfl))) (mvT hZ (hw _ (List.mem_of_getElem? (i := 82) rfl))) (by decide) (backOf (W := 2) (rm10_o1 l Z a0 hw [] b3 w_DEFAULTCAPACITY_EMPTY_ELEMENTDATA h3 n0 (Nat.le_trans Z0 K3.1) A3 F_modCount_b3 g_b3 F_elementData_b3 F_size_b3 (own_sta_keep S_DEFAULTCAPACITY_EMPTY_ELEMENTDATA K3)) hZ (hw _ (List.mem_of_getElem? (i := 82) rfl)) (hw _ (List.mem_of_getElem? (i := 79) rfl)) (by decide) (by decide)) (g := (mkF m 62 #[.val (.int p1), .val (.long q2), .second, .val (.long q3), .second, .val (.long q4), .second, .val (.long q5), .second, .val (.int vt), .val (.long tk), .second, .val (.long lp), .second, .val (.long va), .second, .val (.long vb), .second, .val (.long vn), .second, .val (.ref b1), .unset, .unset, .unset, .unset, .unset, .unset, .unset, .unset] [(.ref b3), (.ref b3), (.ref b1)])) rfl (by rw [hml]; rfl) (Steps.refl _) (a := b3) (argsL := []) (rest := [(.ref b3), (.ref b1)]) (lenOf pd___V rfl) rfl (by show 2 * 0 + _ ≤ _; exact Nat.le_of_eq rfl) (hb hby at_62) (fun _ _ => ⟨rfl, e3, (by decide : 5 + 0 ≤ _), (by decide : 32 + 0 ≤ _)⟩)
  dsimp only [Pt.U, Pt.locs, Pt.cells, Pt.slots] at X4 l4 y4 z4 st4 hQ4
  subst l4 y4 z4
  obtain ⟨rfl, N4q, Kq4, fq4_0, fq4_1, fq4_2, fq4_3⟩ := hQ4
  have N4 := Fr.app N2 N4q
  have K4 : Keep h0 T4.heap [] := K3.trans Kq4 (allS (Or.inr sz_b3) all0)
  obtain ⟨cq5, kq5, q5a, q5b, q5c⟩ := isOf hZ rfl ((fq2_0.ext E3).keep Kq4)
  obtain ⟨_, _, ⟨T5, L5, k5, n5⟩, -, X5, ⟨Lc5, hQ5, l5, y5, z5⟩, st5⟩ := X4.virtualBack hx (y := (⟨"com/example/epochcast/epochcast/server/SessionLeases", "begin", "(Ljava/util/Collection;J)V"⟩ : MethodName)) (z := (⟨"com/example/epochcast/epochcast/server/SessionLeases", "begin", "(Ljava/util/Collection;J)V"⟩ : MethodName)) hown (mvT hZ (hw _ (List.mem_of_getElem? (i := 96) rfl))) (mvT hZ (hw _ (List.mem_of_getElem? (i := 97) rfl))) (notFace_of_selects (args := #[]) (mvT hZ (hw _ (List.mem_of_getElem? (i := 99) rfl)))) (mvT hZ (hw _ (List.mem_of_getElem? (i := 99) rfl))) (mvT hZ (hw _ (List.mem_of_getElem? (i := 98) rfl))) (by decide) (backOf (W := 0) (rm12_o1_o2_q2 l Z a0 hw [] b1 b3 q2 b2c1 b2c2 b2c3 tk lp T4.heap n0 (Nat.le_trans Z0 K4.1) ((fq2_1.ext E3).keep Kq4 (ninS (Nat.ne_of_lt (Nat.lt_of_lt_of_le (fq2_0).lt s_b3)) nin0)) ((fq2_9.ext E3).keep Kq4 (ninS (Nat.ne_of_lt (Nat.lt_of_lt_of_le (fq2_7).lt s_b3)) nin0)) ((fq2_7.ext E3).keep Kq4) g_b2c1 ((fq2_10.ext E3).keep Kq4 (ninS (Nat.ne_of_lt (Nat.lt_of_lt_of_le (fq2_7).lt s_b3)) nin0)) ((fq2_8.ext E3).keep Kq4 (ninS (Nat.ne_of_lt (Nat.lt_of_lt_of_le (fq2_7).lt s_b3)) nin0)) ((fq2_2.ext E3).keep Kq4 (ninS (Nat.ne_of_lt (Nat.lt_of_lt_of_le (fq2_0).lt s_b3)) nin0)) (Nat.ne_of_lt (Nat.lt_of_lt_of_le (A1).lt s_b2c1)) ((fq2_14.ext E3).keep Kq4 (ninS (Nat.ne_of_lt (Nat.lt_of_lt_of_le (fq2_11).lt s_b3)) nin0)) nq_b2c1_b2c2 ((fq2_11.ext E3).keep Kq4) g_b2c2 ((fq2_12.ext E3).keep Kq4 (ninS (Nat.ne_of_lt (Nat.lt_of_lt_of_le (fq2_11).lt s_b3)) nin0)) ((fq2_15.ext E3).keep Kq4 (ninS (Nat.ne_of_lt (Nat.lt_of_lt_of_le (fq2_11).lt s_b3)) nin0)) ((fq2_13.ext E3).keep Kq4 (ninS (Nat.ne_of_lt (Nat.lt_of_lt_of_le (fq2_11).lt s_b3)) nin0)) ((fq2_0.ext E3).keep Kq4) ((fq2_5.ext E3).keep Kq4 (ninS (Nat.ne_of_lt (Nat.lt_of_lt_of_le (fq2_0).lt s_b3)) nin0)) (Nat.ne_of_lt (Nat.lt_of_lt_of_le (A1).lt s_b2c2)) g_b1 ((fq2_6.ext E3).keep Kq4 (ninS (Nat.ne_of_lt (Nat.lt_of_lt_of_le (fq2_0).lt s_b3)) nin0)) fq4_1 (Ne.symm (Nat.ne_of_lt (Nat.lt_of_lt_of_le (fq2_11).lt s_b3))) (Ne.symm (Nat.ne_of_lt (Nat.lt_of_lt_of_le (fq2_7).lt s_b3))) (Nat.ne_of_lt (Nat.lt_of_lt_of_le (fq2_0).lt s_b3)) fq4_0 fq4_3 ((fq2_3.ext E3).keep Kq4 (ninS (Nat.ne_of_lt (Nat.lt_of_lt_of_le (fq2_0).lt s_b3)) nin0)) ((fq2_4.ext E3).keep Kq4 (ninS (Nat.ne_of_lt (Nat.lt_of_lt_of_le (fq2_0).lt s_b3)) nin0))) hZ (hw _ (List.mem_of_getElem? (i := 100) rfl)) (hw _ (List.mem_of_getElem? (i := 5) rfl)) (by decide) (by decide)) q5a q5c (g := (mkF m 66 #[.val (.int p1), .val (.long q2), .second, .val (.long q3), .second, .val (.long q4), .second, .val (.long q5), .second, .val (.int vt), .val (.long tk), .second, .val (.long lp), .second, .val (.long va), .second, .val (.long vb), .second, .val (.long vn), .second, .val (.ref b1), .unset, .unset, .unset, .unset, .unset, .unset, .unset, .unset] [(.long q2), (.ref b3), (.ref b1)])) rfl (by rw [hml]; rfl) (Steps.refl _) (argsL := [(.ref b3), (.long q2)]) (rest := []) (lenOf pd__Ljava_util_Collection_J_V rfl) rfl (by show 2 * 0 + _ ≤ _; exact Nat.le_of_eq rfl) (hb hby at_66) (fun _ _ => ⟨rfl, rfl, (by decide : 5 + 1 ≤ _), (by decide : 32 + 4 ≤ _)⟩)
  dsimp only [Pt.U, Pt.locs, Pt.cells, Pt.slots] at X5 l5 y5 z5 st5 hQ5
  subst l5 y5 z5
  obtain ⟨rfl, N5q, Kq5, fq5_0, fq5_1, fq5_2, fq5_3, fq5_4, fq5_5, fq5_6, fq5_7, fq5_8, fq5_9, fq5_10, fq5_11, fq5_12, fq5_13, fq5_14, fq5_15⟩ := hQ5
  have N5 := Fr.app N4 N5q
  have K5 : Keep h0 T5.heap [] := K4.trans Kq5 (allS (Or.inr sz_b2c1) (allS (Or.inr sz_b2c2) (allS (Or.inr sz_b1) all0)))
  obtain ⟨cq6, kq6, q6a, q6b, q6c⟩ := isOf hZ rfl fq5_11
  obtain ⟨_, _, ⟨T6, L6, k6, n6⟩, -, X6, ⟨Lc6, hQ6, l6, y6, z6⟩, st6⟩ := X5.virtualBack hx (y := (⟨"com/example/epochcast/epochcast/server/SessionLeases", "heartbeat", "(J)V"⟩ : MethodName)) (z := (⟨"com/example/epochcast/epochcast/server/SessionLeases", "heartbeat", "(J)V"⟩ : MethodName)) hown (mvT hZ (hw _ (List.mem_of_getElem? (i := 170) rfl))) (mvT hZ (hw _ (List.mem_of_getElem? (i := 171) rfl))) (notFace_of_selects (args := #[]) (mvT hZ (hw _ (List.mem_of_getElem? (i := 173) rfl)))) (mvT hZ (hw _ (List.mem_of_getElem? (i := 173) rfl))) (mvT hZ (hw _ (List.mem_of_getElem? (i := 172) rfl))) (by decide) (backOf (W := 0) (rm19_o1_va l Z a0 hw [] b1 va q2 lp tk ca b2c1 b2c2 T5.heap n0 (Nat.le_trans Z0 K5.1) fq5_12 fq5_15 hc11 fq5_14 hca fq5_11 fq5_13 g_b1 fq5_9 fq5_10) hZ (hw _ (List.mem_of_getElem? (i := 174) rfl)) (hw _ (List.mem_of_getElem? (i := 5) rfl)) (by decide) (by decide)) q6a q6c (g := (mkF m 73 #[.val (.int p1), .val (.long q2), .second, .val (.long q3), .second, .val (.long q4), .second, .val (.long q5), .second, .val (.int vt), .val (.long tk), .second, .val (.long lp), .second, .val (.long va), .second, .val (.long vb), .second, .val (.long vn), .second, .val (.ref b1), .unset, .unset, .unset, .unset, .unset, .unset, .unset, .unset] [(.long va), (.ref b1)])) rfl (by rw [hml]; rfl) (Steps.refl _) (argsL := [(.long va)]) (rest := []) (lenOf pd__J_V rfl) rfl (by show 2 * 0 + _ ≤ _; exact Nat.le_of_eq rfl) (hb hby at_73) (fun _ _ => ⟨rfl, rfl, (by decide : 6 + 0 ≤ _), (by decide : 36 + 0 ≤ _)⟩)
  dsimp only [Pt.U, Pt.locs, Pt.cells, Pt.slots] at X6 l6 y6 z6 st6 hQ6
  subst l6 y6 z6
  obtain ⟨rfl, N6q, Kq6, fq6_0, fq6_1, fq6_2, fq6_3, fq6_4, fq6_5, fq6_6⟩ := hQ6
  have N6 := Fr.app N5 N6q
  have K6 : Keep h0 T6.heap [] := K5.trans Kq6 (allS (Or.inr sz_b1) all0)
  obtain ⟨cq7, kq7, q7a, q7b, q7c⟩ := isOf hZ rfl fq6_3
  obtain ⟨_, _, ⟨T7, L7, k7, n7⟩, -, X7, ⟨Lc7, hQ7, l7, y7, z7⟩, st7⟩ := X6.virtualBack hx (y := (⟨"com/example/epochcast/epochcast/server/SessionLeases", "heartbeat", "(J)V"⟩ : MethodName)) (z := (⟨"com/example/epochcast/epochcast/server/SessionLeases", "heartbeat", "(J)V"⟩ : MethodName)) hown (mvT hZ (hw _ (List.mem_of_getElem? (i := 170) rfl))) (mvT hZ (hw _ (List.mem_of_getElem? (i := 171) rfl))) (notFace_of_selects (args := #[]) (mvT hZ (hw _ (List.mem_of_getElem? (i := 173) rfl)))) (mvT hZ (hw _ (List.mem_of_getElem? (i := 173) rfl))) (mvT hZ (hw _ (List.mem_of_getElem? (i := 172) rfl))) (by decide) (backOf (W := 0) (rm19_o1_vb l Z a0 hw [] b1 vb va lp tk cb ca b2c1 b2c2 T6.heap n0 (Nat.le_trans Z0 K6.1) fq6_0 fq6_1 hc11_o1_vb fq6_2 hcb fq6_3 fq6_4 g_b1 fq6_5 fq6_6) hZ (hw _ (List.mem_of_getElem? (i := 174) rfl)) (hw _ (List.mem_of_getElem? (i := 5) rfl)) (by decide) (by decide)) q7a q7c (g := (mkF m 80 #[.val (.int p1), .val (.long q2), .second, .val (.long q3), .second, .val (.long q4), .second, .val (.long q5), .second, .val (.int vt), .val (.long tk), .second, .val (.long lp), .second, .val (.long va), .second, .val (.long vb), .second, .val (.long vn), .second, .val (.ref b1), .unset, .unset, .unset, .unset, .unset, .unset, .unset, .unset] [(.long vb), (.ref b1)])) rfl (by rw [hml]; rfl) (Steps.refl _) (argsL := [(.long vb)]) (rest := []) (lenOf pd__J_V rfl) rfl (by show 2 * 0 + _ ≤ _; exact Nat.le_of_eq rfl) (hb hby at_80) (fun _ _ => ⟨rfl, rfl, (by decide : 6 + 0 ≤ _), (by decide : 36 + 0 ≤ _)⟩)
  dsimp only [Pt.U, Pt.locs, Pt.cells, Pt.slots] at X7 l7 y7 z7 st7 hQ7
  subst l7 y7 z7
  obtain ⟨rfl, N7q, Kq7, fq7_0, fq7_1, fq7_2, fq7_3, fq7_4, fq7_5, fq7_6⟩ := hQ7
  have N7 := Fr.app N6 N7q
  have K7 : Keep h0 T7.heap [] := K6.trans Kq7 (allS (Or.inr sz_b1) all0)
  obtain ⟨cq8, kq8, q8a, q8b, q8c⟩ := isOf hZ rfl fq7_3
  obtain ⟨_, _, ⟨T8, L8, k8, n8⟩, -, X8, ⟨Lc8, hQ8, l8, y8, z8⟩, st8⟩ := X7.virtualBack hx (y := (⟨"com/example/epochcast/epochcast/server/SessionLeases", "nextCheck", "(J)J"⟩ : MethodName)) (z := (⟨"com/example/epochcast/epochcast/server/SessionLeases", "nextCheck", "(J)J"⟩ : MethodName)) hown (mvT hZ (hw _ (List.mem_of_getElem? (i := 175) rfl))) (mvT hZ (hw _ (List.mem_of_getElem? (i := 176) rfl))) (notFace_of_selects (args := #[]) (mvT hZ (hw _ (List.mem_of_getElem? (i := 178) rfl)))) (mvT hZ (hw _ (List.mem_of_getElem? (i := 178) rfl))) (mvT hZ (hw _ (List.mem_of_getElem? (i := 177) rfl))) (by decide) (backOf (W := 0) (rm20_nx l Z a0 hw [] b1 vn tk vb lp cb b2c2 b2c3 kc2kd4 T7.heap n0 (Nat.le_trans Z0 K7.1) fq7_2 fq7_0 fq7_1 fq7_6 ((fq5_6.keep Kq6 (ninS (Ne.symm (Nat.ne_of_lt (Nat.lt_of_lt_of_le (A1).lt s_b2c2))) nin0)).keep Kq7 (ninS (Ne.symm (Nat.ne_of_lt (Nat.lt_of_lt_of_le (A1).lt s_b2c2))) nin0)) (((((fq2_16.ext E3).keep Kq4 (ninS (Nat.ne_of_lt (Nat.lt_of_lt_of_le (fq2_16).lt s_b3)) nin0)).keep Kq5 (ninS (Ne.symm nq_b2c1_b2c3) (ninS (Ne.symm nq_b2c2_b2c3) (ninS (Ne.symm (Nat.ne_of_lt (Nat.lt_of_lt_of_le (A1).lt s_b2c3))) nin0)))).keep Kq6 (ninS (Ne.symm (Nat.ne_of_lt (Nat.lt_of_lt_of_le (A1).lt s_b2c3))) nin0)).keep Kq7 (ninS (Ne.symm (Nat.ne_of_lt (Nat.lt_of_lt_of_le (A1).lt s_b2c3))) nin0)) ((fq5_4.keep Kq6).keep Kq7) fq7_4) hZ (hw _ (List.mem_of_getElem? (i := 179) rfl)) (hw _ (List.mem_of_getElem? (i := 5) rfl)) (by decide) (by decide)) q8a q8c (g := (mkF m 144 #[.val (.int p1), .val (.long q2), .second, .val (.long q3), .second, .val (.long q4), .second, .val (.long q5), .second, .val (.int vt), .val (.long tk), .second, .val (.long lp), .second, .val (.long va), .second, .val (.long vb), .second, .val (.long vn), .second, .val (.ref b1), .val (.long ca), .second, .val (.long cb), .second, .val (.long vb), .second, .val (.long vmm), .second] [(.long vn), (.ref b1)])) rfl (by rw [hml]; rfl) (Steps.refl _) (argsL := [(.long vn)]) (rest := []) (lenOf pd__J_J rfl) rfl (by show 2 * 0 + _ ≤ _; exact Nat.le_of_eq rfl) (hb hby at_144) (fun _ _ => ⟨rfl, rfl, (by decide : 6 + 0 ≤ _), (by decide : 36 + 0 ≤ _)⟩)
  dsimp only [Pt.U, Pt.locs, Pt.cells, Pt.slots] at X8 l8 y8 z8 st8 hQ8
  subst l8 y8 z8
  obtain ⟨rfl, N8q, e8⟩ := hQ8
  have N8 := Fr.app N7 N8q
  obtain ⟨_, _, ⟨T9, L9, k9, n9⟩, -, X9, ⟨Lc9, hQ9, l9, y9, z9⟩, st9⟩ := Jvm.LawKit.callS X8 hx (y := (⟨"com/example/epochcast/epochcast/server/SessionLeasesHeartbeatPinLaw", "ref", "(JJJJJ)J"⟩ : MethodName)) hown (mvT hZ (hw _ (List.mem_of_getElem? (i := 180) rfl))) (mvT hZ (hw _ (List.mem_of_getElem? (i := 181) rfl))) (mvT hZ (hw _ (List.mem_of_getElem? (i := 182) rfl))) (mvT hZ (hw _ (List.mem_of_getElem? (i := 183) rfl))) (by decide) (backOf (W := 2) (rm21_rf l Z a0 hw [] vn vb cb tk lp T7.heap n0 (Nat.le_trans Z0 K7.1)) hZ (hw _ (List.mem_of_getElem? (i := 183) rfl)) (hw _ (List.mem_of_getElem? (i := 182) rfl)) (by decide) (by decide)) (g := (mkF m 157 #[.val (.int p1), .val (.long q2), .second, .val (.long q3), .second, .val (.long q4), .second, .val (.long q5), .second, .val (.int vt), .val (.long tk), .second, .val (.long lp), .second, .val (.long va), .second, .val (.long vb), .second, .val (.long vn), .second, .val (.ref b1), .val (.long ca), .second, .val (.long cb), .second, .val (.long vb), .second, .val (.long vmm), .second] [(.long lp), (.long tk), (.long cb), (.long vb), (.long vn), (.long (own_ref vn vb cb tk lp))])) rfl (by rw [hml]; rfl) (argsL := [(.long vn), (.long vb), (.long cb), (.long tk), (.long lp)]) (rest := [(.long (own_ref vn vb cb tk lp))]) (lenOf pd__JJJJJ_J rfl) rfl (by show 2 * 0 + _ ≤ _; exact Nat.le_of_eq rfl) (hb hby at_157) (fun _ _ => ⟨rfl, e8, (by decide : 6 + 0 ≤ _), (by decide : 36 + 0 ≤ _)⟩)
  dsimp only [Pt.U, Pt.locs, Pt.cells, Pt.slots] at X9 l9 y9 z9 st9 hQ9
  subst l9 y9 z9
  obtain ⟨rfl, N9q, e9⟩ := hQ9
  have N9 := Fr.app N8 N9q
  obtain ⟨cq10, kq10, q10a, q10b, q10c⟩ := isOf hZ e9 fq7_3
  obtain ⟨_, _, ⟨T10, L10, k10, n10⟩, -, X10, ⟨Lc10, hQ10, l10, y10, z10⟩, st10⟩ := X9.virtualBack hx (y := (⟨"com/example/epochcast/epochcast/server/SessionLeases", "nextCheck", "(J)J"⟩ : MethodName)) (z := (⟨"com/example/epochcast/epochcast/server/SessionLeases", "nextCheck", "(J)J"⟩ : MethodName)) hown (mvT hZ (hw _ (List.mem_of_getElem? (i := 175) rfl))) (mvT hZ (hw _ (List.mem_of_getElem? (i := 176) rfl))) (notFace_of_selects (args := #[]) (mvT hZ (hw _ (List.mem_of_getElem? (i := 178) rfl)))) (mvT hZ (hw _ (List.mem_of_getElem? (i := 178) rfl))) (mvT hZ (hw _ (List.mem_of_getElem? (i := 177) rfl))) (by decide) (backOf (W := 0) (rm20_nx l Z a0 hw [] b1 bm tk vb lp cb b2c2 b2c3 kc2kd4 T7.heap n0 (Nat.le_trans Z0 K7.1) fq7_2 fq7_0 fq7_1 fq7_6 ((fq5_6.keep Kq6 (ninS (Ne.symm (Nat.ne_of_lt (Nat.lt_of_lt_of_le (A1).lt s_b2c2))) nin0)).keep Kq7 (ninS (Ne.symm (Nat.ne_of_lt (Nat.lt_of_lt_of_le (A1).lt s_b2c2))) nin0)) (((((fq2_16.ext E3).keep Kq4 (ninS (Nat.ne_of_lt (Nat.lt_of_lt_of_le (fq2_16).lt s_b3)) nin0)).keep Kq5 (ninS (Ne.symm nq_b2c1_b2c3) (ninS (Ne.symm nq_b2c2_b2c3) (ninS (Ne.symm (Nat.ne_of_lt (Nat.lt_of_lt_of_le (A1).lt s_b2c3))) nin0)))).keep Kq6 (ninS (Ne.symm (Nat.ne_of_lt (Nat.lt_of_lt_of_le (A1).lt s_b2c3))) nin0)).keep Kq7 (ninS (Ne.symm (Nat.ne_of_lt (Nat.lt_of_lt_of_le (A1).lt s_b2c3))) nin0)) ((fq5_4.keep Kq6).keep Kq7) fq7_4) hZ (hw _ (List.mem_of_getElem? (i := 179) rfl)) (hw _ (List.mem_of_getElem? (i := 5) rfl)) (by decide) (by decide)) q10a q10c (g := (mkF m 170 #[.val (.int p1), .val (.long q2), .second, .val (.long q3), .second, .val (.long q4), .second, .val (.long q5), .second, .val (.int vt), .val (.long tk), .second, .val (.long lp), .second, .val (.long va), .second, .val (.long vb), .second, .val (.long vn), .second, .val (.ref b1), .val (.long ca), .second, .val (.long cb), .second, .val (.long vb), .second, .val (.long vmm), .second] [(.long bm), (.ref b1)])) rfl (by rw [hml]; rfl) (Steps.refl _) (argsL := [(.long bm)]) (rest := []) (lenOf pd__J_J rfl) rfl (by show 2 * 0 + _ ≤ _; exact Nat.le_of_eq rfl) (hb hby at_170) (fun _ _ => ⟨rfl, e9, (by decide : 6 + 0 ≤ _), (by decide : 36 + 0 ≤ _)⟩)
  dsimp only [Pt.U, Pt.locs, Pt.cells, Pt.slots] at X10 l10 y10 z10 st10 hQ10
  subst l10 y10 z10
  obtain ⟨rfl, N10q, e10⟩ := hQ10
  have N10 := Fr.app N9 N10q
  obtain ⟨_, _, ⟨T11, L11, k11, n11⟩, -, X11, ⟨Lc11, hQ11, l11, y11, z11⟩, st11⟩ := Jvm.LawKit.callS X10 hx (y := (⟨"com/example/epochcast/epochcast/server/SessionLeasesHeartbeatPinLaw", "ref", "(JJJJJ)J"⟩ : MethodName)) hown (mvT hZ (hw _ (List.mem_of_getElem? (i := 180) rfl))) (mvT hZ (hw _ (List.mem_of_getElem? (i := 181) rfl))) (mvT hZ (hw _ (List.mem_of_getElem? (i := 182) rfl))) (mvT hZ (hw _ (List.mem_of_getElem? (i := 183) rfl))) (by decide) (backOf (W := 2) (rm21_rf l Z a0 hw [] bm vb cb tk lp T7.heap n0 (Nat.le_trans Z0 K7.1)) hZ (hw _ (List.mem_of_getElem? (i := 183) rfl)) (hw _ (List.mem_of_getElem? (i := 182) rfl)) (by decide) (by decide)) (g := (mkF m 185 #[.val (.int p1), .val (.long q2), .second, .val (.long q3), .second, .val (.long q4), .second, .val (.long q5), .second, .val (.int vt), .val (.long tk), .second, .val (.long lp), .second, .val (.long va), .second, .val (.long vb), .second, .val (.long vn), .second, .val (.ref b1), .val (.long ca), .second, .val (.long cb), .second, .val (.long vb), .second, .val (.long vmm), .second] [(.long lp), (.long tk), (.long cb), (.long vb), (.long bm), (.long (own_ref bm vb cb tk lp))])) rfl (by rw [hml]; rfl) (argsL := [(.long bm), (.long vb), (.long cb), (.long tk), (.long lp)]) (rest := [(.long (own_ref bm vb cb tk lp))]) (lenOf pd__JJJJJ_J rfl) rfl (by show 2 * 0 + _ ≤ _; exact Nat.le_of_eq rfl) (hb hby at_185) (fun _ _ => ⟨rfl, e10, (by decide : 6 + 0 ≤ _), (by decide : 36 + 0 ≤ _)⟩)
  dsimp only [Pt.U, Pt.locs, Pt.cells, Pt.slots] at X11 l11 y11 z11 st11 hQ11
  subst l11 y11 z11
  obtain ⟨rfl, N11q, e11⟩ := hQ11
  have N11 := Fr.app N10 N11q
  obtain ⟨cq12, kq12, q12a, q12b, q12c⟩ := isOf hZ e11 fq7_3
  obtain ⟨_, _, ⟨T12, L12, k12, n12⟩, -, X12, ⟨Lc12, hQ12, l12, y12, z12⟩, st12⟩ := X11.virtualBack hx (y := (⟨"com/example/epochcast/epochcast/server/SessionLeases", "nextCheck", "(J)J"⟩ : MethodName)) (z := (⟨"com/example/epochcast/epochcast/server/SessionLeases", "nextCheck", "(J)J"⟩ : MethodName)) hown (mvT hZ (hw _ (List.mem_of_getElem? (i := 175) rfl))) (mvT hZ (hw _ (List.mem_of_getElem? (i := 176) rfl))) (notFace_of_selects (args := #[]) (mvT hZ (hw _ (List.mem_of_getElem? (i := 178) rfl)))) (mvT hZ (hw _ (List.mem_of_getElem? (i := 178) rfl))) (mvT hZ (hw _ (List.mem_of_getElem? (i := 177) rfl))) (by decide) (backOf (W := 0) (rm20_nx l Z a0 hw [] b1 bl tk vb lp cb b2c2 b2c3 kc2kd4 T7.heap n0 (Nat.le_trans Z0 K7.1) fq7_2 fq7_0 fq7_1 fq7_6 ((fq5_6.keep Kq6 (ninS (Ne.symm (Nat.ne_of_lt (Nat.lt_of_lt_of_le (A1).lt s_b2c2))) nin0)).keep Kq7 (ninS (Ne.symm (Nat.ne_of_lt (Nat.lt_of_lt_of_le (A1).lt s_b2c2))) nin0)) (((((fq2_16.ext E3).keep Kq4 (ninS (Nat.ne_of_lt (Nat.lt_of_lt_of_le (fq2_16).lt s_b3)) nin0)).keep Kq5 (ninS (Ne.symm nq_b2c1_b2c3) (ninS (Ne.symm nq_b2c2_b2c3) (ninS (Ne.symm (Nat.ne_of_lt (Nat.lt_of_lt_of_le (A1).lt s_b2c3))) nin0)))).keep Kq6 (ninS (Ne.symm (Nat.ne_of_lt (Nat.lt_of_lt_of_le (A1).lt s_b2c3))) nin0)).keep Kq7 (ninS (Ne.symm (Nat.ne_of_lt (Nat.lt_of_lt_of_le (A1).lt s_b2c3))) nin0)) ((fq5_4.keep Kq6).keep Kq7) fq7_4) hZ (hw _ (List.mem_of_getElem? (i := 179) rfl)) (hw _ (List.mem_of_getElem? (i := 5) rfl)) (by decide) (by decide)) q12a q12c (g := (mkF m 199 #[.val (.int p1), .val (.long q2), .second, .val (.long q3), .second, .val (.long q4), .second, .val (.long q5), .second, .val (.int vt), .val (.long tk), .second, .val (.long lp), .second, .val (.long va), .second, .val (.long vb), .second, .val (.long vn), .second, .val (.ref b1), .val (.long ca), .second, .val (.long cb), .second, .val (.long vb), .second, .val (.long vmm), .second] [(.long bl), (.ref b1)])) rfl (by rw [hml]; rfl) (Steps.refl _) (argsL := [(.long bl)]) (rest := []) (lenOf pd__J_J rfl) rfl (by show 2 * 0 + _ ≤ _; exact Nat.le_of_eq rfl) (hb hby at_199) (fun _ _ => ⟨rfl, e11, (by decide : 6 + 0 ≤ _), (by decide : 36 + 0 ≤ _)⟩)
  dsimp only [Pt.U, Pt.locs, Pt.cells, Pt.slots] at X12 l12 y12 z12 st12 hQ12
  subst l12 y12 z12
  obtain ⟨rfl, N12q, e12⟩ := hQ12
  have N12 := Fr.app N11 N12q
  obtain ⟨_, _, ⟨T13, L13, k13, n13⟩, -, X13, ⟨Lc13, hQ13, l13, y13, z13⟩, st13⟩ := Jvm.LawKit.callS X12 hx (y := (⟨"com/example/epochcast/epochcast/server/SessionLeasesHeartbeatPinLaw", "ref", "(JJJJJ)J"⟩ : MethodName)) hown (mvT hZ (hw _ (List.mem_of_getElem? (i := 180) rfl))) (mvT hZ (hw _ (List.mem_of_getElem? (i := 181) rfl))) (mvT hZ (hw _ (List.mem_of_getElem? (i := 182) rfl))) (mvT hZ (hw _ (List.mem_of_getElem? (i := 183) rfl))) (by decide) (backOf (W := 2) (rm21_rf l Z a0 hw [] bl vb cb tk lp T7.heap n0 (Nat.le_trans Z0 K7.1)) hZ (hw _ (List.mem_of_getElem? (i := 183) rfl)) (hw _ (List.mem_of_getElem? (i := 182) rfl)) (by decide) (by decide)) (g := (mkF m 215 #[.val (.int p1), .val (.long q2), .second, .val (.long q3), .second, .val (.long q4), .second, .val (.long q5), .second, .val (.int vt), .val (.long tk), .second, .val (.long lp), .second, .val (.long va), .second, .val (.long vb), .second, .val (.long vn), .second, .val (.ref b1), .val (.long ca), .second, .val (.long cb), .second, .val (.long vb), .second, .val (.long vmm), .second] [(.long lp), (.long tk), (.long cb), (.long vb), (.long bl), (.long (own_ref bl vb cb tk lp))])) rfl (by rw [hml]; rfl) (argsL := [(.long bl), (.long vb), (.long cb), (.long tk), (.long lp)]) (rest := [(.long (own_ref bl vb cb tk lp))]) (lenOf pd__JJJJJ_J rfl) rfl (by show 2 * 0 + _ ≤ _; exact Nat.le_of_eq rfl) (hb hby at_215) (fun _ _ => ⟨rfl, e12, (by decide : 6 + 0 ≤ _), (by decide : 36 + 0 ≤ _)⟩)
  dsimp only [Pt.U, Pt.locs, Pt.cells, Pt.slots] at X13 l13 y13 z13 st13 hQ13
  subst l13 y13 z13
  obtain ⟨rfl, N13q, e13⟩ := hQ13
  have N13 := Fr.app N12 N13q
  obtain ⟨cq14, kq14, q14a, q14b, q14c⟩ := isOf hZ e13 fq7_3
  obtain ⟨_, _, ⟨T14, L14, k14, n14⟩, -, X14, ⟨Lc14, hQ14, l14, y14, z14⟩, st14⟩ := X13.virtualBack hx (y := (⟨"com/example/epochcast/epochcast/server/SessionLeases", "nextCheck", "(J)J"⟩ : MethodName)) (z := (⟨"com/example/epochcast/epochcast/server/SessionLeases", "nextCheck", "(J)J"⟩ : MethodName)) hown (mvT hZ (hw _ (List.mem_of_getElem? (i := 175) rfl))) (mvT hZ (hw _ (List.mem_of_getElem? (i := 176) rfl))) (notFace_of_selects (args := #[]) (mvT hZ (hw _ (List.mem_of_getElem? (i := 178) rfl)))) (mvT hZ (hw _ (List.mem_of_getElem? (i := 178) rfl))) (mvT hZ (hw _ (List.mem_of_getElem? (i := 177) rfl))) (by decide) (backOf (W := 0) (rm20_nx l Z a0 hw [] b1 bl1 tk vb lp cb b2c2 b2c3 kc2kd4 T7.heap n0 (Nat.le_trans Z0 K7.1) fq7_2 fq7_0 fq7_1 fq7_6 ((fq5_6.keep Kq6 (ninS (Ne.symm (Nat.ne_of_lt (Nat.lt_of_lt_of_le (A1).lt s_b2c2))) nin0)).keep Kq7 (ninS (Ne.symm (Nat.ne_of_lt (Nat.lt_of_lt_of_le (A1).lt s_b2c2))) nin0)) (((((fq2_16.ext E3).keep Kq4 (ninS (Nat.ne_of_lt (Nat.lt_of_lt_of_le (fq2_16).lt s_b3)) nin0)).keep Kq5 (ninS (Ne.symm nq_b2c1_b2c3) (ninS (Ne.symm nq_b2c2_b2c3) (ninS (Ne.symm (Nat.ne_of_lt (Nat.lt_of_lt_of_le (A1).lt s_b2c3))) nin0)))).keep Kq6 (ninS (Ne.symm (Nat.ne_of_lt (Nat.lt_of_lt_of_le (A1).lt s_b2c3))) nin0)).keep Kq7 (ninS (Ne.symm (Nat.ne_of_lt (Nat.lt_of_lt_of_le (A1).lt s_b2c3))) nin0)) ((fq5_4.keep Kq6).keep Kq7) fq7_4) hZ (hw _ (List.mem_of_getElem? (i := 179) rfl)) (hw _ (List.mem_of_getElem? (i := 5) rfl)) (by decide) (by decide)) q14a q14c (g := (mkF m 231 #[.val (.int p1), .val (.long q2), .second, .val (.long q3), .second, .val (.long q4), .second, .val (.long q5), .second, .val (.int vt), .val (.long tk), .second, .val (.long lp), .second, .val (.long va), .second, .val (.long vb), .second, .val (.long vn), .second, .val (.ref b1), .val (.long ca), .second, .val (.long cb), .second, .val (.long vb), .second, .val (.long vmm), .second] [(.long bl1), (.ref b1)])) rfl (by rw [hml]; rfl) (Steps.refl _) (argsL := [(.long bl1)]) (rest := []) (lenOf pd__J_J rfl) rfl (by show 2 * 0 + _ ≤ _; exact Nat.le_of_eq rfl) (hb hby at_231) (fun _ _ => ⟨rfl, e13, (by decide : 6 + 0 ≤ _), (by decide : 36 + 0 ≤ _)⟩)
  dsimp only [Pt.U, Pt.locs, Pt.cells, Pt.slots] at X14 l14 y14 z14 st14 hQ14
  subst l14 y14 z14
  obtain ⟨rfl, N14q, e14⟩ := hQ14
  have N14 := Fr.app N13 N14q
  obtain ⟨_, _, ⟨T15, L15, k15, n15⟩, -, X15, ⟨Lc15, hQ15, l15, y15, z15⟩, st15⟩ := Jvm.LawKit.callS X14 hx (y := (⟨"com/example/epochcast/epochcast/server/SessionLeasesHeartbeatPinLaw", "ref", "(JJJJJ)J"⟩ : MethodName)) hown (mvT hZ (hw _ (List.mem_of_getElem? (i := 180) rfl))) (mvT hZ (hw _ (List.mem_of_getElem? (i := 181) rfl))) (mvT hZ (hw _ (List.mem_of_getElem? (i := 182) rfl))) (mvT hZ (hw _ (List.mem_of_getElem? (i := 183) rfl))) (by decide) (backOf (W := 2) (rm21_rf l Z a0 hw [] bl1 vb cb tk lp T7.heap n0 (Nat.le_trans Z0 K7.1)) hZ (hw _ (List.mem_of_getElem? (i := 183) rfl)) (hw _ (List.mem_of_getElem? (i := 182) rfl)) (by decide) (by decide)) (g := (mkF m 249 #[.val (.int p1), .val (.long q2), .second, .val (.long q3), .second, .val (.long q4), .second, .val (.long q5), .second, .val (.int vt), .val (.long tk), .second, .val (.long lp), .second, .val (.long va), .second, .val (.long vb), .second, .val (.long vn), .second, .val (.ref b1), .val (.long ca), .second, .val (.long cb), .second, .val (.long vb), .second, .val (.long vmm), .second] [(.long lp), (.long tk), (.long cb), (.long vb), (.long bl1), (.long (own_ref bl1 vb cb tk lp))])) rfl (by rw [hml]; rfl) (argsL := [(.long bl1), (.long vb), (.long cb), (.long tk), (.long lp)]) (rest := [(.long (own_ref bl1 vb cb tk lp))]) (lenOf pd__JJJJJ_J rfl) rfl (by show 2 * 0 + _ ≤ _; exact Nat.le_of_eq rfl) (hb hby at_249) (fun _ _ => ⟨rfl, e14, (by decide : 6 + 0 ≤ _), (by decide : 36 + 0 ≤ _)⟩)
  dsimp only [Pt.U, Pt.locs, Pt.cells, Pt.slots] at X15 l15 y15 z15 st15 hQ15
  subst l15 y15 z15
  obtain ⟨rfl, N15q, e15⟩ := hQ15
  have N15 := Fr.app N14 N15q
  obtain ⟨cq16, kq16, q16a, q16b, q16c⟩ := isOf hZ e15 fq7_3
  obtain ⟨_, _, ⟨T16, L16, k16, n16⟩, -, X16, ⟨Lc16, hQ16, l16, y16, z16⟩, st16⟩ := X15.virtualBack hx (y := (⟨"com/example/epochcast/epochcast/server/SessionLeases", "nextCheck", "(J)J"⟩ : MethodName)) (z := (⟨"com/example/epochcast/epochcast/server/SessionLeases", "nextCheck", "(J)J"⟩ : MethodName)) hown (mvT hZ (hw _ (List.mem_of_getElem? (i := 175) rfl))) (mvT hZ (hw _ (List.mem_of_getElem? (i := 176) rfl))) (notFace_of_selects (args := #[]) (mvT hZ (hw _ (List.mem_of_getElem? (i := 178) rfl)))) (mvT hZ (hw _ (List.mem_of_getElem? (i := 178) rfl))) (mvT hZ (hw _ (List.mem_of_getElem? (i := 177) rfl))) (by decide) (backOf (W := 0) (rm20_nx l Z a0 hw [] b1 vmm tk vb lp cb b2c2 b2c3 kc2kd4 T7.heap n0 (Nat.le_trans Z0 K7.1) fq7_2 fq7_0 fq7_1 fq7_6 ((fq5_6.keep Kq6 (ninS (Ne.symm (Nat.ne_of_lt (Nat.lt_of_lt_of_le (A1).lt s_b2c2))) nin0)).keep Kq7 (ninS (Ne.symm (Nat.ne_of_lt (Nat.lt_of_lt_of_le (A1).lt s_b2c2))) nin0)) (((((fq2_16.ext E3).keep Kq4 (ninS (Nat.ne_of_lt (Nat.lt_of_lt_of_le (fq2_16).lt s_b3)) nin0)).keep Kq5 (ninS (Ne.symm nq_b2c1_b2c3) (ninS (Ne.symm nq_b2c2_b2c3) (ninS (Ne.symm (Nat.ne_of_lt (Nat.lt_of_lt_of_le (A1).lt s_b2c3))) nin0)))).keep Kq6 (ninS (Ne.symm (Nat.ne_of_lt (Nat.lt_of_lt_of_le (A1).lt s_b2c3))) nin0)).keep Kq7 (ninS (Ne.symm (Nat.ne_of_lt (Nat.lt_of_lt_of_le (A1).lt s_b2c3))) nin0)) ((fq5_4.keep Kq6).keep Kq7) fq7_4) hZ (hw _ (List.mem_of_getElem? (i := 179) rfl)) (hw _ (List.mem_of_getElem? (i := 5) rfl)) (by decide) (by decide)) q16a q16c (g := (mkF m 260 #[.val (.int p1), .val (.long q2), .second, .val (.long q3), .second, .val (.long q4), .second, .val (.long q5), .second, .val (.int vt), .val (.long tk), .second, .val (.long lp), .second, .val (.long va), .second, .val (.long vb), .second, .val (.long vn), .second, .val (.ref b1), .val (.long ca), .second, .val (.long cb), .second, .val (.long vb), .second, .val (.long vmm), .second] [(.long vmm), (.ref b1)])) rfl (by rw [hml]; rfl) (Steps.refl _) (argsL := [(.long vmm)]) (rest := []) (lenOf pd__J_J rfl) rfl (by show 2 * 0 + _ ≤ _; exact Nat.le_of_eq rfl) (hb hby at_260) (fun _ _ => ⟨rfl, e15, (by decide : 6 + 0 ≤ _), (by decide : 36 + 0 ≤ _)⟩)
  dsimp only [Pt.U, Pt.locs, Pt.cells, Pt.slots] at X16 l16 y16 z16 st16 hQ16
  subst l16 y16 z16
  obtain ⟨rfl, N16q, e16⟩ := hQ16
  have N16 := Fr.app N15 N16q
  obtain ⟨_, _, ⟨T17, L17, k17, n17⟩, -, X17, ⟨Lc17, hQ17, l17, y17, z17⟩, st17⟩ := Jvm.LawKit.callS X16 hx (y := (⟨"com/example/epochcast/epochcast/server/SessionLeasesHeartbeatPinLaw", "ref", "(JJJJJ)J"⟩ : MethodName)) hown (mvT hZ (hw _ (List.mem_of_getElem? (i := 180) rfl))) (mvT hZ (hw _ (List.mem_of_getElem? (i := 181) rfl))) (mvT hZ (hw _ (List.mem_of_getElem? (i := 182) rfl))) (mvT hZ (hw _ (List.mem_of_getElem? (i := 183) rfl))) (by decide) (backOf (W := 2) (rm21_rf l Z a0 hw [] vmm vb cb tk lp T7.heap n0 (Nat.le_trans Z0 K7.1)) hZ (hw _ (List.mem_of_getElem? (i := 183) rfl)) (hw _ (List.mem_of_getElem? (i := 182) rfl)) (by decide) (by decide)) (g := (mkF m 273 #[.val (.int p1), .val (.long q2), .second, .val (.long q3), .second, .val (.long q4), .second, .val (.long q5), .second, .val (.int vt), .val (.long tk), .second, .val (.long lp), .second, .val (.long va), .second, .val (.long vb), .second, .val (.long vn), .second, .val (.ref b1), .val (.long ca), .second, .val (.long cb), .second, .val (.long vb), .second, .val (.long vmm), .second] [(.long lp), (.long tk), (.long cb), (.long vb), (.long vmm), (.long (own_ref vmm vb cb tk lp))])) rfl (by rw [hml]; rfl) (argsL := [(.long vmm), (.long vb), (.long cb), (.long tk), (.long lp)]) (rest := [(.long (own_ref vmm vb cb tk lp))]) (lenOf pd__JJJJJ_J rfl) rfl (by show 2 * 0 + _ ≤ _; exact Nat.le_of_eq rfl) (hb hby at_273) (fun _ _ => ⟨rfl, e16, (by decide : 6 + 0 ≤ _), (by decide : 36 + 0 ≤ _)⟩)
  dsimp only [Pt.U, Pt.locs, Pt.cells, Pt.slots] at X17 l17 y17 z17 st17 hQ17
  subst l17 y17 z17
  obtain ⟨rfl, N17q, e17⟩ := hQ17
  have N17 := Fr.app N16 N17q
  obtain ⟨fs, hr, hrun, hended, hW, hsame⟩ := X17.leave (v := some (.int 1)) (fun h => by rw [Bd.returns] at h; cases h)
  refine ⟨_, _, pre0 _ ?_, hrun, hended, _, _, rfl, ?_, ⟨_, rfl⟩, hW, hsame.mono (by decide) (by decide)⟩
  · show Steps p.tables e below (s₁.setTop (mkF m 0 #[.val (.int p1), .val (.long q2), .second, .val (.long q3), .second, .val (.long q4), .second, .val (.long q5), .second, .unset, .unset, .unset, .unset, .unset, .unset, .unset, .unset, .unset, .unset, .unset, .unset, .unset, .unset, .unset, .unset, .unset, .unset, .unset, .unset] [])) _
    refine XS.iloadN X0.here hx rfl (hb hby at_0) rfl ?_
    show Steps p.tables e below (s₁.setTop (mkF m 1 #[.val (.int p1), .val (.long q2), .second, .val (.long q3), .second, .val (.long q4), .second, .val (.long q5), .second, .unset, .unset, .unset, .unset, .unset, .unset, .unset, .unset, .unset, .unset, .unset, .unset, .unset, .unset, .unset, .unset, .unset, .unset, .unset, .unset] [(.int p1)])) _
    refine X0.ldcInt hx hown (mvT hZ (hw _ (List.mem_of_getElem? (i := 0) rfl))) (g := (mkF m 1 #[.val (.int p1), .val (.long q2), .second, .val (.long q3), .second, .val (.long q4), .second, .val (.long q5), .second, .unset, .unset, .unset, .unset, .unset, .unset, .unset, .unset, .unset, .unset, .unset, .unset, .unset, .unset, .unset, .unset, .unset, .unset, .unset, .unset] [(.int p1)])) rfl (hb hby at_1) _ ?_
    show Steps p.tables e below (s₁.setTop (mkF m 3 #[.val (.int p1), .val (.long q2), .second, .val (.long q3), .second, .val (.long q4), .second, .val (.long q5), .second, .unset, .unset, .unset, .unset, .unset, .unset, .unset, .unset, .unset, .unset, .unset, .unset, .unset, .unset, .unset, .unset, .unset, .unset, .unset, .unset] [(.int 2147483647), (.int p1)])) _
    refine XS.iand X0.here hx rfl (hb hby at_3) rfl ?_
    show Steps p.tables e below (s₁.setTop (mkF m 4 #[.val (.int p1), .val (.long q2), .second, .val (.long q3), .second, .val (.long q4), .second, .val (.long q5), .second, .unset, .unset, .unset, .unset, .unset, .unset, .unset, .unset, .unset, .unset, .unset, .unset, .unset, .unset, .unset, .unset, .unset, .unset, .unset, .unset] [(.int (p1 &&& (2147483647 : Int32)))])) _
    rw [ht]
    show Steps p.tables e below (s₁.setTop (mkF m 4 #[.val (.int p1), .val (.long q2), .second, .val (.long q3), .second, .val (.long q4), .second, .val (.long q5), .second, .unset, .unset, .unset, .unset, .unset, .unset, .unset, .unset, .unset, .unset, .unset, .unset, .unset, .unset, .unset, .unset, .unset, .unset, .unset, .unset] [(.int vt)])) _
    refine XS.istore X0.here hx rfl (hb hby at_4) rfl (l' := #[.val (.int p1), .val (.long q2), .second, .val (.long q3), .second, .val (.long q4), .second, .val (.long q5), .second, .val (.int vt), .unset, .unset, .unset, .unset, .unset, .unset, .unset, .unset, .unset, .unset, .unset, .unset, .unset, .unset, .unset, .unset, .unset, .unset, .unset]) rfl ?_
    show Steps p.tables e below (s₁.setTop (mkF m 6 #[.val (.int p1), .val (.long q2), .second, .val (.long q3), .second, .val (.long q4), .second, .val (.long q5), .second, .val (.int vt), .unset, .unset, .unset, .unset, .unset, .unset, .unset, .unset, .unset, .unset, .unset, .unset, .unset, .unset, .unset, .unset, .unset, .unset, .unset] [])) _
    refine XS.iload X0.here hx rfl (hb hby at_6) rfl ?_
    show Steps p.tables e below (s₁.setTop (mkF m 8 #[.val (.int p1), .val (.long q2), .second, .val (.long q3), .second, .val (.long q4), .second, .val (.long q5), .second, .val (.int vt), .unset, .unset, .unset, .unset, .unset, .unset, .unset, .unset, .unset, .unset, .unset, .unset, .unset, .unset, .unset, .unset, .unset, .unset, .unset] [(.int vt)])) _
    refine XS.i2l X0.here hx rfl (hb hby at_8) rfl ?_
    show Steps p.tables e below (s₁.setTop (mkF m 9 #[.val (.int p1), .val (.long q2), .second, .val (.long q3), .second, .val (.long q4), .second, .val (.long q5), .second, .val (.int vt), .unset, .unset, .unset, .unset, .unset, .unset, .unset, .unset, .unset, .unset, .unset, .unset, .unset, .unset, .unset, .unset, .unset, .unset, .unset] [(.long (vt.toInt64))])) _
    refine X0.ldc2Long hx hown (mvT hZ (hw _ (List.mem_of_getElem? (i := 1) rfl))) (g := (mkF m 9 #[.val (.int p1), .val (.long q2), .second, .val (.long q3), .second, .val (.long q4), .second, .val (.long q5), .second, .val (.int vt), .unset, .unset, .unset, .unset, .unset, .unset, .unset, .unset, .unset, .unset, .unset, .unset, .unset, .unset, .unset, .unset, .unset, .unset, .unset] [(.long (vt.toInt64))])) rfl (hb hby at_9) _ ?_
    show Steps p.tables e below (s₁.setTop (mkF m 12 #[.val (.int p1), .val (.long q2), .second, .val (.long q3), .second, .val (.long q4), .second, .val (.long q5), .second, .val (.int vt), .unset, .unset, .unset, .unset, .unset, .unset, .unset, .unset, .unset, .unset, .unset, .unset, .unset, .unset, .unset, .unset, .unset, .unset, .unset] [(.long 1000000), (.long (vt.toInt64))])) _
    refine XS.lmul X0.here hx rfl (hb hby at_12) rfl ?_
    show Steps p.tables e below (s₁.setTop (mkF m 13 #[.val (.int p1), .val (.long q2), .second, .val (.long q3), .second, .val (.long q4), .second, .val (.long q5), .second, .val (.int vt), .unset, .unset, .unset, .unset, .unset, .unset, .unset, .unset, .unset, .unset, .unset, .unset, .unset, .unset, .unset, .unset, .unset, .unset, .unset] [(.long ((vt.toInt64) * (1000000 : Int64)))])) _
    rw [htk]
    show Steps p.tables e below (s₁.setTop (mkF m 13 #[.val (.int p1), .val (.long q2), .second, .val (.long q3), .second, .val (.long q4), .second, .val (.long q5), .second, .val (.int vt), .unset, .unset, .unset, .unset, .unset, .unset, .unset, .unset, .unset, .unset, .unset, .unset, .unset, .unset, .unset, .unset, .unset, .unset, .unset] [(.long tk)])) _
    refine XS.lstore X0.here hx rfl (hb hby at_13) rfl (l' := #[.val (.int p1), .val (.long q2), .second, .val (.long q3), .second, .val (.long q4), .second, .val (.long q5), .second, .val (.int vt), .val (.long tk), .second, .unset, .unset, .unset, .unset, .unset, .unset, .unset, .unset, .unset, .unset, .unset, .unset, .unset, .unset, .unset, .unset, .unset]) rfl ?_
    show Steps p.tables e below (s₁.setTop (mkF m 15 #[.val (.int p1), .val (.long q2), .second, .val (.long q3), .second, .val (.long q4), .second, .val (.long q5), .second, .val (.int vt), .val (.long tk), .second, .unset, .unset, .unset, .unset, .unset, .unset, .unset, .unset, .unset, .unset, .unset, .unset, .unset, .unset, .unset, .unset, .unset] [])) _
    refine XS.lload X0.here hx rfl (hb hby at_15) rfl ?_
    show Steps p.tables e below (s₁.setTop (mkF m 17 #[.val (.int p1), .val (.long q2), .second, .val (.long q3), .second, .val (.long q4), .second, .val (.long q5), .second, .val (.int vt), .val (.long tk), .second, .unset, .unset, .unset, .unset, .unset, .unset, .unset, .unset, .unset, .unset, .unset, .unset, .unset, .unset, .unset, .unset, .unset] [(.long tk)])) _
    refine XS.lload X0.here hx rfl (hb hby at_17) rfl ?_
    show Steps p.tables e below (s₁.setTop (mkF m 19 #[.val (.int p1), .val (.long q2), .second, .val (.long q3), .second, .val (.long q4), .second, .val (.long q5), .second, .val (.int vt), .val (.long tk), .second, .unset, .unset, .unset, .unset, .unset, .unset, .unset, .unset, .unset, .unset, .unset, .unset, .unset, .unset, .unset, .unset, .unset] [(.long tk), (.long tk)])) _
    refine X0.ldc2Long hx hown (mvT hZ (hw _ (List.mem_of_getElem? (i := 2) rfl))) (g := (mkF m 19 #[.val (.int p1), .val (.long q2), .second, .val (.long q3), .second, .val (.long q4), .second, .val (.long q5), .second, .val (.int vt), .val (.long tk), .second, .unset, .unset, .unset, .unset, .unset, .unset, .unset, .unset, .unset, .unset, .unset, .unset, .unset, .unset, .unset, .unset, .unset] [(.long tk), (.long tk)])) rfl (hb hby at_19) _ ?_
    show Steps p.tables e below (s₁.setTop (mkF m 22 #[.val (.int p1), .val (.long q2), .second, .val (.long q3), .second, .val (.long q4), .second, .val (.long q5), .second, .val (.int vt), .val (.long tk), .second, .unset, .unset, .unset, .unset, .unset, .unset, .unset, .unset, .unset, .unset, .unset, .unset, .unset, .unset, .unset, .unset, .unset] [(.long 4), (.long tk), (.long tk)])) _
    refine XS.ldiv X0.here hx rfl (hb hby at_22) rfl (by decide) ?_
    show Steps p.tables e below (s₁.setTop (mkF m 23 #[.val (.int p1), .val (.long q2), .second, .val (.long q3), .second, .val (.long q4), .second, .val (.long q5), .second, .val (.int vt), .val (.long tk), .second, .unset, .unset, .unset, .unset, .unset, .unset, .unset, .unset, .unset, .unset, .unset, .unset, .unset, .unset, .unset, .unset, .unset] [(.long (tk / (4 : Int64))), (.long tk)])) _
    refine XS.ladd X0.here hx rfl (hb hby at_23) rfl ?_
    show Steps p.tables e below (s₁.setTop (mkF m 24 #[.val (.int p1), .val (.long q2), .second, .val (.long q3), .second, .val (.long q4), .second, .val (.long q5), .second, .val (.int vt), .val (.long tk), .second, .unset, .unset, .unset, .unset, .unset, .unset, .unset, .unset, .unset, .unset, .unset, .unset, .unset, .unset, .unset, .unset, .unset] [(.long (tk + (tk / (4 : Int64))))])) _
    rw [hlp]
    show Steps p.tables e below (s₁.setTop (mkF m 24 #[.val (.int p1), .val (.long q2), .second, .val (.long q3), .second, .val (.long q4), .second, .val (.long q5), .second, .val (.int vt), .val (.long tk), .second, .unset, .unset, .unset, .unset, .unset, .unset, .unset, .unset, .unset, .unset, .unset, .unset, .unset, .unset, .unset, .unset, .unset] [(.long lp)])) _
    refine XS.lstore X0.here hx rfl (hb hby at_24) rfl (l' := #[.val (.int p1), .val (.long q2), .second, .val (.long q3), .second, .val (.long q4), .second, .val (.long q5), .second, .val (.int vt), .val (.long tk), .second, .val (.long lp), .second, .unset, .unset, .unset, .unset, .unset, .unset, .unset, .unset, .unset, .unset, .unset, .unset, .unset, .unset, .unset]) rfl ?_
    show Steps p.tables e below (s₁.setTop (mkF m 26 #[.val (.int p1), .val (.long q2), .second, .val (.long q3), .second, .val (.long q4), .second, .val (.long q5), .second, .val (.int vt), .val (.long tk), .second, .val (.long lp), .second, .unset, .unset, .unset, .unset, .unset, .unset, .unset, .unset, .unset, .unset, .unset, .unset, .unset, .unset, .unset] [])) _
    refine XS.lloadN X0.here hx rfl (hb hby at_26) rfl ?_
    show Steps p.tables e below (s₁.setTop (mkF m 27 #[.val (.int p1), .val (.long q2), .second, .val (.long q3), .second, .val (.long q4), .second, .val (.long q5), .second, .val (.int vt), .val (.long tk), .second, .val (.long lp), .second, .unset, .unset, .unset, .unset, .unset, .unset, .unset, .unset, .unset, .unset, .unset, .unset, .unset, .unset, .unset] [(.long q2)])) _
    refine XS.lloadN X0.here hx rfl (hb hby at_27) rfl ?_
    show Steps p.tables e below (s₁.setTop (mkF m 28 #[.val (.int p1), .val (.long q2), .second, .val (.long q3), .second, .val (.long q4), .second, .val (.long q5), .second, .val (.int vt), .val (.long tk), .second, .val (.long lp), .second, .unset, .unset, .unset, .unset, .unset, .unset, .unset, .unset, .unset, .unset, .unset, .unset, .unset, .unset, .unset] [(.long q3), (.long q2)])) _
    refine XS.ladd X0.here hx rfl (hb hby at_28) rfl ?_
    show Steps p.tables e below (s₁.setTop (mkF m 29 #[.val (.int p1), .val (.long q2), .second, .val (.long q3), .second, .val (.long q4), .second, .val (.long q5), .second, .val (.int vt), .val (.long tk), .second, .val (.long lp), .second, .unset, .unset, .unset, .unset, .unset, .unset, .unset, .unset, .unset, .unset, .unset, .unset, .unset, .unset, .unset] [(.long (q2 + q3))])) _
    rw [hva]
    show Steps p.tables e below (s₁.setTop (mkF m 29 #[.val (.int p1), .val (.long q2), .second, .val (.long q3), .second, .val (.long q4), .second, .val (.long q5), .second, .val (.int vt), .val (.long tk), .second, .val (.long lp), .second, .unset, .unset, .unset, .unset, .unset, .unset, .unset, .unset, .unset, .unset, .unset, .unset, .unset, .unset, .unset] [(.long va)])) _
    refine XS.lstore X0.here hx rfl (hb hby at_29) rfl (l' := #[.val (.int p1), .val (.long q2), .second, .val (.long q3), .second, .val (.long q4), .second, .val (.long q5), .second, .val (.int vt), .val (.long tk), .second, .val (.long lp), .second, .val (.long va), .second, .unset, .unset, .unset, .unset, .unset, .unset, .unset, .unset, .unset, .unset, .unset, .unset, .unset]) rfl ?_
    show Steps p.tables e below (s₁.setTop (mkF m 31 #[.val (.int p1), .val (.long q2), .second, .val (.long q3), .second, .val (.long q4), .second, .val (.long q5), .second, .val (.int vt), .val (.long tk), .second, .val (.long lp), .second, .val (.long va), .second, .unset, .unset, .unset, .unset, .unset, .unset, .unset, .unset, .unset, .unset, .unset, .unset, .unset] [])) _
    refine XS.lload X0.here hx rfl (hb hby at_31) rfl ?_
    show Steps p.tables e below (s₁.setTop (mkF m 33 #[.val (.int p1), .val (.long q2), .second, .val (.long q3), .second, .val (.long q4), .second, .val (.long q5), .second, .val (.int vt), .val (.long tk), .second, .val (.long lp), .second, .val (.long va), .second, .unset, .unset, .unset, .unset, .unset, .unset, .unset, .unset, .unset, .unset, .unset, .unset, .unset] [(.long va)])) _
    refine XS.lload X0.here hx rfl (hb hby at_33) rfl ?_
    show Steps p.tables e below (s₁.setTop (mkF m 35 #[.val (.int p1), .val (.long q2), .second, .val (.long q3), .second, .val (.long q4), .second, .val (.long q5), .second, .val (.int vt), .val (.long tk), .second, .val (.long lp), .second, .val (.long va), .second, .unset, .unset, .unset, .unset, .unset, .unset, .unset, .unset, .unset, .unset, .unset, .unset, .unset] [(.long q4), (.long va)])) _
    refine XS.ladd X0.here hx rfl (hb hby at_35) rfl ?_
    show Steps p.tables e below (s₁.setTop (mkF m 36 #[.val (.int p1), .val (.long q2), .second, .val (.long q3), .second, .val (.long q4), .second, .val (.long q5), .second, .val (.int vt), .val (.long tk), .second, .val (.long lp), .second, .val (.long va), .second, .unset, .unset, .unset, .unset, .unset, .unset, .unset, .unset, .unset, .unset, .unset, .unset, .unset] [(.long (va + q4))])) _
    rw [hvb]
    show Steps p.tables e below (s₁.setTop (mkF m 36 #[.val (.int p1), .val (.long q2), .second, .val (.long q3), .second, .val (.long q4), .second, .val (.long q5), .second, .val (.int vt), .val (.long tk), .second, .val (.long lp), .second, .val (.long va), .second, .unset, .unset, .unset, .unset, .unset, .unset, .unset, .unset, .unset, .unset, .unset, .unset, .unset] [(.long vb)])) _
    refine XS.lstore X0.here hx rfl (hb hby at_36) rfl (l' := #[.val (.int p1), .val (.long q2), .second, .val (.long q3), .second, .val (.long q4), .second, .val (.long q5), .second, .val (.int vt), .val (.long tk), .second, .val (.long lp), .second, .val (.long va), .second, .val (.long vb), .second, .unset, .unset, .unset, .unset, .unset, .unset, .unset, .unset, .unset, .unset, .unset]) rfl ?_
    show Steps p.tables e below (s₁.setTop (mkF m 38 #[.val (.int p1), .val (.long q2), .second, .val (.long q3), .second, .val (.long q4), .second, .val (.long q5), .second, .val (.int vt), .val (.long tk), .second, .val (.long lp), .second, .val (.long va), .second, .val (.long vb), .second, .unset, .unset, .unset, .unset, .unset, .unset, .unset, .unset, .unset, .unset, .unset] [])) _
    refine XS.lload X0.here hx rfl (hb hby at_38) rfl ?_
    show Steps p.tables e below (s₁.setTop (mkF m 40 #[.val (.int p1), .val (.long q2), .second, .val (.long q3), .second, .val (.long q4), .second, .val (.long q5), .second, .val (.int vt), .val (.long tk), .second, .val (.long lp), .second, .val (.long va), .second, .val (.long vb), .second, .unset, .unset, .unset, .unset, .unset, .unset, .unset, .unset, .unset, .unset, .unset] [(.long vb)])) _
    refine XS.lload X0.here hx rfl (hb hby at_40) rfl ?_
    show Steps p.tables e below (s₁.setTop (mkF m 42 #[.val (.int p1), .val (.long q2), .second, .val (.long q3), .second, .val (.long q4), .second, .val (.long q5), .second, .val (.int vt), .val (.long tk), .second, .val (.long lp), .second, .val (.long va), .second, .val (.long vb), .second, .unset, .unset, .unset, .unset, .unset, .unset, .unset, .unset, .unset, .unset, .unset] [(.long q5), (.long vb)])) _
    refine XS.ladd X0.here hx rfl (hb hby at_42) rfl ?_
    show Steps p.tables e below (s₁.setTop (mkF m 43 #[.val (.int p1), .val (.long q2), .second, .val (.long q3), .second, .val (.long q4), .second, .val (.long q5), .second, .val (.int vt), .val (.long tk), .second, .val (.long lp), .second, .val (.long va), .second, .val (.long vb), .second, .unset, .unset, .unset, .unset, .unset, .unset, .unset, .unset, .unset, .unset, .unset] [(.long (vb + q5))])) _
    rw [hvn]
    show Steps p.tables e below (s₁.setTop (mkF m 43 #[.val (.int p1), .val (.long q2), .second, .val (.long q3), .second, .val (.long q4), .second, .val (.long q5), .second, .val (.int vt), .val (.long tk), .second, .val (.long lp), .second, .val (.long va), .second, .val (.long vb), .second, .unset, .unset, .unset, .unset, .unset, .unset, .unset, .unset, .unset, .unset, .unset] [(.long vn)])) _
    refine XS.lstore X0.here hx rfl (hb hby at_43) rfl (l' := #[.val (.int p1), .val (.long q2), .second, .val (.long q3), .second, .val (.long q4), .second, .val (.long q5), .second, .val (.int vt), .val (.long tk), .second, .val (.long lp), .second, .val (.long va), .second, .val (.long vb), .second, .val (.long vn), .second, .unset, .unset, .unset, .unset, .unset, .unset, .unset, .unset, .unset]) rfl ?_
    show Steps p.tables e below (s₁.setTop (mkF m 45 #[.val (.int p1), .val (.long q2), .second, .val (.long q3), .second, .val (.long q4), .second, .val (.long q5), .second, .val (.int vt), .val (.long tk), .second, .val (.long lp), .second, .val (.long va), .second, .val (.long vb), .second, .val (.long vn), .second, .unset, .unset, .unset, .unset, .unset, .unset, .unset, .unset, .unset] [])) _
    refine st1 _ ?_
    show Steps p.tables e below (T1.setTop (mkF m 48 #[.val (.int p1), .val (.long q2), .second, .val (.long q3), .second, .val (.long q4), .second, .val (.long q5), .second, .val (.int vt), .val (.long tk), .second, .val (.long lp), .second, .val (.long va), .second, .val (.long vb), .second, .val (.long vn), .second, .unset, .unset, .unset, .unset, .unset, .unset, .unset, .unset, .unset] [(.ref b1)])) _
    refine XS.dup X1.here hx rfl (hb hby at_48) rfl rfl ?_
    show Steps p.tables e below (T1.setTop (mkF m 49 #[.val (.int p1), .val (.long q2), .second, .val (.long q3), .second, .val (.long q4), .second, .val (.long q5), .second, .val (.int vt), .val (.long tk), .second, .val (.long lp), .second, .val (.long va), .second, .val (.long vb), .second, .val (.long vn), .second, .unset, .unset, .unset, .unset, .unset, .unset, .unset, .unset, .unset] [(.ref b1), (.ref b1)])) _
    refine XS.iload X1.here hx rfl (hb hby at_49) rfl ?_
    show Steps p.tables e below (T1.setTop (mkF m 51 #[.val (.int p1), .val (.long q2), .second, .val (.long q3), .second, .val (.long q4), .second, .val (.long q5), .second, .val (.int vt), .val (.long tk), .second, .val (.long lp), .second, .val (.long va), .second, .val (.long vb), .second, .val (.long vn), .second, .unset, .unset, .unset, .unset, .unset, .unset, .unset, .unset, .unset] [(.int vt), (.ref b1), (.ref b1)])) _
    refine st2.trans ?_
    show Steps p.tables e below (T2.setTop (mkF m 54 #[.val (.int p1), .val (.long q2), .second, .val (.long q3), .second, .val (.long q4), .second, .val (.long q5), .second, .val (.int vt), .val (.long tk), .second, .val (.long lp), .second, .val (.long va), .second, .val (.long vb), .second, .val (.long vn), .second, .unset, .unset, .unset, .unset, .unset, .unset, .unset, .unset, .unset] [(.ref b1)])) _
    refine XS.astore X2.here hx rfl (hb hby at_54) rfl rfl (l' := #[.val (.int p1), .val (.long q2), .second, .val (.long q3), .second, .val (.long q4), .second, .val (.long q5), .second, .val (.int vt), .val (.long tk), .second, .val (.long lp), .second, .val (.long va), .second, .val (.long vb), .second, .val (.long vn), .second, .val (.ref b1), .unset, .unset, .unset, .unset, .unset, .unset, .unset, .unset]) rfl ?_
    show Steps p.tables e below (T2.setTop (mkF m 56 #[.val (.int p1), .val (.long q2), .second, .val (.long q3), .second, .val (.long q4), .second, .val (.long q5), .second, .val (.int vt), .val (.long tk), .second, .val (.long lp), .second, .val (.long va), .second, .val (.long vb), .second, .val (.long vn), .second, .val (.ref b1), .unset, .unset, .unset, .unset, .unset, .unset, .unset, .unset] [])) _
    refine XS.aload X2.here hx rfl (hb hby at_56) rfl rfl ?_
    show Steps p.tables e below (T2.setTop (mkF m 58 #[.val (.int p1), .val (.long q2), .second, .val (.long q3), .second, .val (.long q4), .second, .val (.long q5), .second, .val (.int vt), .val (.long tk), .second, .val (.long lp), .second, .val (.long va), .second, .val (.long vb), .second, .val (.long vn), .second, .val (.ref b1), .unset, .unset, .unset, .unset, .unset, .unset, .unset, .unset] [(.ref b1)])) _
    refine st3 _ ?_
    show Steps p.tables e below (T3.setTop (mkF m 61 #[.val (.int p1), .val (.long q2), .second, .val (.long q3), .second, .val (.long q4), .second, .val (.long q5), .second, .val (.int vt), .val (.long tk), .second, .val (.long lp), .second, .val (.long va), .second, .val (.long vb), .second, .val (.long vn), .second, .val (.ref b1), .unset, .unset, .unset, .unset, .unset, .unset, .unset, .unset] [(.ref b3), (.ref b1)])) _
    refine XS.dup X3.here hx rfl (hb hby at_61) rfl rfl ?_
    show Steps p.tables e below (T3.setTop (mkF m 62 #[.val (.int p1), .val (.long q2), .second, .val (.long q3), .second, .val (.long q4), .second, .val (.long q5), .second, .val (.int vt), .val (.long tk), .second, .val (.long lp), .second, .val (.long va), .second, .val (.long vb), .second, .val (.long vn), .second, .val (.ref b1), .unset, .unset, .unset, .unset, .unset, .unset, .unset, .unset] [(.ref b3), (.ref b3), (.ref b1)])) _
    refine st4.trans ?_
    show Steps p.tables e below (T4.setTop (mkF m 65 #[.val (.int p1), .val (.long q2), .second, .val (.long q3), .second, .val (.long q4), .second, .val (.long q5), .second, .val (.int vt), .val (.long tk), .second, .val (.long lp), .second, .val (.long va), .second, .val (.long vb), .second, .val (.long vn), .second, .val (.ref b1), .unset, .unset, .unset, .unset, .unset, .unset, .unset, .unset] [(.ref b3), (.ref b1)])) _
    refine XS.lloadN X4.here hx rfl (hb hby at_65) rfl ?_
    show Steps p.tables e below (T4.setTop (mkF m 66 #[.val (.int p1), .val (.long q2), .second, .val (.long q3), .second, .val (.long q4), .second, .val (.long q5), .second, .val (.int vt), .val (.long tk), .second, .val (.long lp), .second, .val (.long va), .second, .val (.long vb), .second, .val (.long vn), .second, .val (.ref b1), .unset, .unset, .unset, .unset, .unset, .unset, .unset, .unset] [(.long q2), (.ref b3), (.ref b1)])) _
    refine st5.trans ?_
    show Steps p.tables e below (T5.setTop (mkF m 69 #[.val (.int p1), .val (.long q2), .second, .val (.long q3), .second, .val (.long q4), .second, .val (.long q5), .second, .val (.int vt), .val (.long tk), .second, .val (.long lp), .second, .val (.long va), .second, .val (.long vb), .second, .val (.long vn), .second, .val (.ref b1), .unset, .unset, .unset, .unset, .unset, .unset, .unset, .unset] [])) _
    refine XS.aload X5.here hx rfl (hb hby at_69) rfl rfl ?_
    show Steps p.tables e below (T5.setTop (mkF m 71 #[.val (.int p1), .val (.long q2), .second, .val (.long q3), .second, .val (.long q4), .second, .val (.long q5), .second, .val (.int vt), .val (.long tk), .second, .val (.long lp), .second, .val (.long va), .second, .val (.long vb), .second, .val (.long vn), .second, .val (.ref b1), .unset, .unset, .unset, .unset, .unset, .unset, .unset, .unset] [(.ref b1)])) _
    refine XS.lload X5.here hx rfl (hb hby at_71) rfl ?_
    show Steps p.tables e below (T5.setTop (mkF m 73 #[.val (.int p1), .val (.long q2), .second, .val (.long q3), .second, .val (.long q4), .second, .val (.long q5), .second, .val (.int vt), .val (.long tk), .second, .val (.long lp), .second, .val (.long va), .second, .val (.long vb), .second, .val (.long vn), .second, .val (.ref b1), .unset, .unset, .unset, .unset, .unset, .unset, .unset, .unset] [(.long va), (.ref b1)])) _
    refine st6.trans ?_
    show Steps p.tables e below (T6.setTop (mkF m 76 #[.val (.int p1), .val (.long q2), .second, .val (.long q3), .second, .val (.long q4), .second, .val (.long q5), .second, .val (.int vt), .val (.long tk), .second, .val (.long lp), .second, .val (.long va), .second, .val (.long vb), .second, .val (.long vn), .second, .val (.ref b1), .unset, .unset, .unset, .unset, .unset, .unset, .unset, .unset] [])) _
    refine XS.aload X6.here hx rfl (hb hby at_76) rfl rfl ?_
    show Steps p.tables e below (T6.setTop (mkF m 78 #[.val (.int p1), .val (.long q2), .second, .val (.long q3), .second, .val (.long q4), .second, .val (.long q5), .second, .val (.int vt), .val (.long tk), .second, .val (.long lp), .second, .val (.long va), .second, .val (.long vb), .second, .val (.long vn), .second, .val (.ref b1), .unset, .unset, .unset, .unset, .unset, .unset, .unset, .unset] [(.ref b1)])) _
    refine XS.lload X6.here hx rfl (hb hby at_78) rfl ?_
    show Steps p.tables e below (T6.setTop (mkF m 80 #[.val (.int p1), .val (.long q2), .second, .val (.long q3), .second, .val (.long q4), .second, .val (.long q5), .second, .val (.int vt), .val (.long tk), .second, .val (.long lp), .second, .val (.long va), .second, .val (.long vb), .second, .val (.long vn), .second, .val (.ref b1), .unset, .unset, .unset, .unset, .unset, .unset, .unset, .unset] [(.long vb), (.ref b1)])) _
    refine st7.trans ?_
    show Steps p.tables e below (T7.setTop (mkF m 83 #[.val (.int p1), .val (.long q2), .second, .val (.long q3), .second, .val (.long q4), .second, .val (.long q5), .second, .val (.int vt), .val (.long tk), .second, .val (.long lp), .second, .val (.long va), .second, .val (.long vb), .second, .val (.long vn), .second, .val (.ref b1), .unset, .unset, .unset, .unset, .unset, .unset, .unset, .unset] [])) _
    refine XS.lload X7.here hx rfl (hb hby at_83) rfl ?_
    show Steps p.tables e below (T7.setTop (mkF m 85 #[.val (.int p1), .val (.long q2), .second, .val (.long q3), .second, .val (.long q4), .second, .val (.long q5), .second, .val (.int vt), .val (.long tk), .second, .val (.long lp), .second, .val (.long va), .second, .val (.long vb), .second, .val (.long vn), .second, .val (.ref b1), .unset, .unset, .unset, .unset, .unset, .unset, .unset, .unset] [(.long va)])) _
    refine XS.lloadN X7.here hx rfl (hb hby at_85) rfl ?_
    show Steps p.tables e below (T7.setTop (mkF m 86 #[.val (.int p1), .val (.long q2), .second, .val (.long q3), .second, .val (.long q4), .second, .val (.long q5), .second, .val (.int vt), .val (.long tk), .second, .val (.long lp), .second, .val (.long va), .second, .val (.long vb), .second, .val (.long vn), .second, .val (.ref b1), .unset, .unset, .unset, .unset, .unset, .unset, .unset, .unset] [(.long q2), (.long va)])) _
    refine XS.lsub X7.here hx rfl (hb hby at_86) rfl ?_
    show Steps p.tables e below (T7.setTop (mkF m 87 #[.val (.int p1), .val (.long q2), .second, .val (.long q3), .second, .val (.long q4), .second, .val (.long q5), .second, .val (.int vt), .val (.long tk), .second, .val (.long lp), .second, .val (.long va), .second, .val (.long vb), .second, .val (.long vn), .second, .val (.ref b1), .unset, .unset, .unset, .unset, .unset, .unset, .unset, .unset] [(.long (va - q2))])) _
    refine XS.lload X7.here hx rfl (hb hby at_87) rfl ?_
    show Steps p.tables e below (T7.setTop (mkF m 89 #[.val (.int p1), .val (.long q2), .second, .val (.long q3), .second, .val (.long q4), .second, .val (.long q5), .second, .val (.int vt), .val (.long tk), .second, .val (.long lp), .second, .val (.long va), .second, .val (.long vb), .second, .val (.long vn), .second, .val (.ref b1), .unset, .unset, .unset, .unset, .unset, .unset, .unset, .unset] [(.long lp), (.long (va - q2))])) _
    refine XS.lcmp X7.here hx rfl (hb hby at_89) rfl ?_
    show Steps p.tables e below (T7.setTop (mkF m 90 #[.val (.int p1), .val (.long q2), .second, .val (.long q3), .second, .val (.long q4), .second, .val (.long q5), .second, .val (.int vt), .val (.long tk), .second, .val (.long lp), .second, .val (.long va), .second, .val (.long vb), .second, .val (.long vn), .second, .val (.ref b1), .unset, .unset, .unset, .unset, .unset, .unset, .unset, .unset] [(.int (lcmpW (va - q2) lp))])) _
    refine XS.ifNo X7.here hx rfl (hb hby at_90) rfl ((if0 _ _).trans (tlt hc90).2.2.2) ?_
    show Steps p.tables e below (T7.setTop (mkF m 93 #[.val (.int p1), .val (.long q2), .second, .val (.long q3), .second, .val (.long q4), .second, .val (.long q5), .second, .val (.int vt), .val (.long tk), .second, .val (.long lp), .second, .val (.long va), .second, .val (.long vb), .second, .val (.long vn), .second, .val (.ref b1), .unset, .unset, .unset, .unset, .unset, .unset, .unset, .unset] [])) _
    refine XS.lload X7.here hx rfl (hb hby at_93) rfl ?_
    show Steps p.tables e below (T7.setTop (mkF m 95 #[.val (.int p1), .val (.long q2), .second, .val (.long q3), .second, .val (.long q4), .second, .val (.long q5), .second, .val (.int vt), .val (.long tk), .second, .val (.long lp), .second, .val (.long va), .second, .val (.long vb), .second, .val (.long vn), .second, .val (.ref b1), .unset, .unset, .unset, .unset, .unset, .unset, .unset, .unset] [(.long va)])) _
    refine XS.lload X7.here hx rfl (hb hby at_95) rfl ?_
    show Steps p.tables e below (T7.setTop (mkF m 97 #[.val (.int p1), .val (.long q2), .second, .val (.long q3), .second, .val (.long q4), .second, .val (.long q5), .second, .val (.int vt), .val (.long tk), .second, .val (.long lp), .second, .val (.long va), .second, .val (.long vb), .second, .val (.long vn), .second, .val (.ref b1), .unset, .unset, .unset, .unset, .unset, .unset, .unset, .unset] [(.long tk), (.long va)])) _
    refine XS.ladd X7.here hx rfl (hb hby at_97) rfl ?_
    show Steps p.tables e below (T7.setTop (mkF m 98 #[.val (.int p1), .val (.long q2), .second, .val (.long q3), .second, .val (.long q4), .second, .val (.long q5), .second, .val (.int vt), .val (.long tk), .second, .val (.long lp), .second, .val (.long va), .second, .val (.long vb), .second, .val (.long vn), .second, .val (.ref b1), .unset, .unset, .unset, .unset, .unset, .unset, .unset, .unset] [(.long (va + tk))])) _
    rw [hca]
    show Steps p.tables e below (T7.setTop (mkF m 98 #[.val (.int p1), .val (.long q2), .second, .val (.long q3), .second, .val (.long q4), .second, .val (.long q5), .second, .val (.int vt), .val (.long tk), .second, .val (.long lp), .second, .val (.long va), .second, .val (.long vb), .second, .val (.long vn), .second, .val (.ref b1), .unset, .unset, .unset, .unset, .unset, .unset, .unset, .unset] [(.long ca)])) _
    refine XS.goto X7.here hx rfl (pc0 := 98) (pc' := 102) rfl (hb hby at_98) (by decide) (by decide) ?_
    show Steps p.tables e below (T7.setTop (mkF m 102 #[.val (.int p1), .val (.long q2), .second, .val (.long q3), .second, .val (.long q4), .second, .val (.long q5), .second, .val (.int vt), .val (.long tk), .second, .val (.long lp), .second, .val (.long va), .second, .val (.long vb), .second, .val (.long vn), .second, .val (.ref b1), .unset, .unset, .unset, .unset, .unset, .unset, .unset, .unset] [(.long ca)])) _
    refine XS.lstore X7.here hx rfl (hb hby at_102) rfl (l' := #[.val (.int p1), .val (.long q2), .second, .val (.long q3), .second, .val (.long q4), .second, .val (.long q5), .second, .val (.int vt), .val (.long tk), .second, .val (.long lp), .second, .val (.long va), .second, .val (.long vb), .second, .val (.long vn), .second, .val (.ref b1), .val (.long ca), .second, .unset, .unset, .unset, .unset, .unset, .unset]) rfl ?_
    show Steps p.tables e below (T7.setTop (mkF m 104 #[.val (.int p1), .val (.long q2), .second, .val (.long q3), .second, .val (.long q4), .second, .val (.long q5), .second, .val (.int vt), .val (.long tk), .second, .val (.long lp), .second, .val (.long va), .second, .val (.long vb), .second, .val (.long vn), .second, .val (.ref b1), .val (.long ca), .second, .unset, .unset, .unset, .unset, .unset, .unset] [])) _
    refine XS.lload X7.here hx rfl (hb hby at_104) rfl ?_
    show Steps p.tables e below (T7.setTop (mkF m 106 #[.val (.int p1), .val (.long q2), .second, .val (.long q3), .second, .val (.long q4), .second, .val (.long q5), .second, .val (.int vt), .val (.long tk), .second, .val (.long lp), .second, .val (.long va), .second, .val (.long vb), .second, .val (.long vn), .second, .val (.ref b1), .val (.long ca), .second, .unset, .unset, .unset, .unset, .unset, .unset] [(.long vb)])) _
    refine XS.lload X7.here hx rfl (hb hby at_106) rfl ?_
    show Steps p.tables e below (T7.setTop (mkF m 108 #[.val (.int p1), .val (.long q2), .second, .val (.long q3), .second, .val (.long q4), .second, .val (.long q5), .second, .val (.int vt), .val (.long tk), .second, .val (.long lp), .second, .val (.long va), .second, .val (.long vb), .second, .val (.long vn), .second, .val (.ref b1), .val (.long ca), .second, .unset, .unset, .unset, .unset, .unset, .unset] [(.long va), (.long vb)])) _
    refine XS.lsub X7.here hx rfl (hb hby at_108) rfl ?_
    show Steps p.tables e below (T7.setTop (mkF m 109 #[.val (.int p1), .val (.long q2), .second, .val (.long q3), .second, .val (.long q4), .second, .val (.long q5), .second, .val (.int vt), .val (.long tk), .second, .val (.long lp), .second, .val (.long va), .second, .val (.long vb), .second, .val (.long vn), .second, .val (.ref b1), .val (.long ca), .second, .unset, .unset, .unset, .unset, .unset, .unset] [(.long (vb - va))])) _
    refine XS.lload X7.here hx rfl (hb hby at_109) rfl ?_
    show Steps p.tables e below (T7.setTop (mkF m 111 #[.val (.int p1), .val (.long q2), .second, .val (.long q3), .second, .val (.long q4), .second, .val (.long q5), .second, .val (.int vt), .val (.long tk), .second, .val (.long lp), .second, .val (.long va), .second, .val (.long vb), .second, .val (.long vn), .second, .val (.ref b1), .val (.long ca), .second, .unset, .unset, .unset, .unset, .unset, .unset] [(.long lp), (.long (vb - va))])) _
    refine XS.lcmp X7.here hx rfl (hb hby at_111) rfl ?_
    show Steps p.tables e below (T7.setTop (mkF m 112 #[.val (.int p1), .val (.long q2), .second, .val (.long q3), .second, .val (.long q4), .second, .val (.long q5), .second, .val (.int vt), .val (.long tk), .second, .val (.long lp), .second, .val (.long va), .second, .val (.long vb), .second, .val (.long vn), .second, .val (.ref b1), .val (.long ca), .second, .unset, .unset, .unset, .unset, .unset, .unset] [(.int (lcmpW (vb - va) lp))])) _
    refine XS.ifNo X7.here hx rfl (hb hby at_112) rfl ((if0 _ _).trans (tlt hc112).2.2.2) ?_
    show Steps p.tables e below (T7.setTop (mkF m 115 #[.val (.int p1), .val (.long q2), .second, .val (.long q3), .second, .val (.long q4), .second, .val (.long q5), .second, .val (.int vt), .val (.long tk), .second, .val (.long lp), .second, .val (.long va), .second, .val (.long vb), .second, .val (.long vn), .second, .val (.ref b1), .val (.long ca), .second, .unset, .unset, .unset, .unset, .unset, .unset] [])) _
    refine XS.lload X7.here hx rfl (hb hby at_115) rfl ?_
    show Steps p.tables e below (T7.setTop (mkF m 117 #[.val (.int p1), .val (.long q2), .second, .val (.long q3), .second, .val (.long q4), .second, .val (.long q5), .second, .val (.int vt), .val (.long tk), .second, .val (.long lp), .second, .val (.long va), .second, .val (.long vb), .second, .val (.long vn), .second, .val (.ref b1), .val (.long ca), .second, .unset, .unset, .unset, .unset, .unset, .unset] [(.long vb)])) _
    refine XS.lload X7.here hx rfl (hb hby at_117) rfl ?_
    show Steps p.tables e below (T7.setTop (mkF m 119 #[.val (.int p1), .val (.long q2), .second, .val (.long q3), .second, .val (.long q4), .second, .val (.long q5), .second, .val (.int vt), .val (.long tk), .second, .val (.long lp), .second, .val (.long va), .second, .val (.long vb), .second, .val (.long vn), .second, .val (.ref b1), .val (.long ca), .second, .unset, .unset, .unset, .unset, .unset, .unset] [(.long tk), (.long vb)])) _
    refine XS.ladd X7.here hx rfl (hb hby at_119) rfl ?_
    show Steps p.tables e below (T7.setTop (mkF m 120 #[.val (.int p1), .val (.long q2), .second, .val (.long q3), .second, .val (.long q4), .second, .val (.long q5), .second, .val (.int vt), .val (.long tk), .second, .val (.long lp), .second, .val (.long va), .second, .val (.long vb), .second, .val (.long vn), .second, .val (.ref b1), .val (.long ca), .second, .unset, .unset, .unset, .unset, .unset, .unset] [(.long (vb + tk))])) _
    rw [hcb]
    show Steps p.tables e below (T7.setTop (mkF m 120 #[.val (.int p1), .val (.long q2), .second, .val (.long q3), .second, .val (.long q4), .second, .val (.long q5), .second, .val (.int vt), .val (.long tk), .second, .val (.long lp), .second, .val (.long va), .second, .val (.long vb), .second, .val (.long vn), .second, .val (.ref b1), .val (.long ca), .second, .unset, .unset, .unset, .unset, .unset, .unset] [(.long cb)])) _
    refine XS.goto X7.here hx rfl (pc0 := 120) (pc' := 125) rfl (hb hby at_120) (by decide) (by decide) ?_
    show Steps p.tables e below (T7.setTop (mkF m 125 #[.val (.int p1), .val (.long q2), .second, .val (.long q3), .second, .val (.long q4), .second, .val (.long q5), .second, .val (.int vt), .val (.long tk), .second, .val (.long lp), .second, .val (.long va), .second, .val (.long vb), .second, .val (.long vn), .second, .val (.ref b1), .val (.long ca), .second, .unset, .unset, .unset, .unset, .unset, .unset] [(.long cb)])) _
    refine XS.lstore X7.here hx rfl (hb hby at_125) rfl (l' := #[.val (.int p1), .val (.long q2), .second, .val (.long q3), .second, .val (.long q4), .second, .val (.long q5), .second, .val (.int vt), .val (.long tk), .second, .val (.long lp), .second, .val (.long va), .second, .val (.long vb), .second, .val (.long vn), .second, .val (.ref b1), .val (.long ca), .second, .val (.long cb), .second, .unset, .unset, .unset, .unset]) rfl ?_
    show Steps p.tables e below (T7.setTop (mkF m 127 #[.val (.int p1), .val (.long q2), .second, .val (.long q3), .second, .val (.long q4), .second, .val (.long q5), .second, .val (.int vt), .val (.long tk), .second, .val (.long lp), .second, .val (.long va), .second, .val (.long vb), .second, .val (.long vn), .second, .val (.ref b1), .val (.long ca), .second, .val (.long cb), .second, .unset, .unset, .unset, .unset] [])) _
    refine XS.lload X7.here hx rfl (hb hby at_127) rfl ?_
    show Steps p.tables e below (T7.setTop (mkF m 129 #[.val (.int p1), .val (.long q2), .second, .val (.long q3), .second, .val (.long q4), .second, .val (.long q5), .second, .val (.int vt), .val (.long tk), .second, .val (.long lp), .second, .val (.long va), .second, .val (.long vb), .second, .val (.long vn), .second, .val (.ref b1), .val (.long ca), .second, .val (.long cb), .second, .unset, .unset, .unset, .unset] [(.long vb)])) _
    refine XS.lstore X7.here hx rfl (hb hby at_129) rfl (l' := #[.val (.int p1), .val (.long q2), .second, .val (.long q3), .second, .val (.long q4), .second, .val (.long q5), .second, .val (.int vt), .val (.long tk), .second, .val (.long lp), .second, .val (.long va), .second, .val (.long vb), .second, .val (.long vn), .second, .val (.ref b1), .val (.long ca), .second, .val (.long cb), .second, .val (.long vb), .second, .unset, .unset]) rfl ?_
    show Steps p.tables e below (T7.setTop (mkF m 131 #[.val (.int p1), .val (.long q2), .second, .val (.long q3), .second, .val (.long q4), .second, .val (.long q5), .second, .val (.int vt), .val (.long tk), .second, .val (.long lp), .second, .val (.long va), .second, .val (.long vb), .second, .val (.long vn), .second, .val (.ref b1), .val (.long ca), .second, .val (.long cb), .second, .val (.long vb), .second, .unset, .unset] [])) _
    refine XS.lload X7.here hx rfl (hb hby at_131) rfl ?_
    show Steps p.tables e below (T7.setTop (mkF m 133 #[.val (.int p1), .val (.long q2), .second, .val (.long q3), .second, .val (.long q4), .second, .val (.long q5), .second, .val (.int vt), .val (.long tk), .second, .val (.long lp), .second, .val (.long va), .second, .val (.long vb), .second, .val (.long vn), .second, .val (.ref b1), .val (.long ca), .second, .val (.long cb), .second, .val (.long vb), .second, .unset, .unset] [(.long cb)])) _
    refine XS.lload X7.here hx rfl (hb hby at_133) rfl ?_
    show Steps p.tables e below (T7.setTop (mkF m 135 #[.val (.int p1), .val (.long q2), .second, .val (.long q3), .second, .val (.long q4), .second, .val (.long q5), .second, .val (.int vt), .val (.long tk), .second, .val (.long lp), .second, .val (.long va), .second, .val (.long vb), .second, .val (.long vn), .second, .val (.ref b1), .val (.long ca), .second, .val (.long cb), .second, .val (.long vb), .second, .unset, .unset] [(.long tk), (.long cb)])) _
    refine XS.lsub X7.here hx rfl (hb hby at_135) rfl ?_
    show Steps p.tables e below (T7.setTop (mkF m 136 #[.val (.int p1), .val (.long q2), .second, .val (.long q3), .second, .val (.long q4), .second, .val (.long q5), .second, .val (.int vt), .val (.long tk), .second, .val (.long lp), .second, .val (.long va), .second, .val (.long vb), .second, .val (.long vn), .second, .val (.ref b1), .val (.long ca), .second, .val (.long cb), .second, .val (.long vb), .second, .unset, .unset] [(.long (cb - tk))])) _
    rw [hm1]
    show Steps p.tables e below (T7.setTop (mkF m 136 #[.val (.int p1), .val (.long q2), .second, .val (.long q3), .second, .val (.long q4), .second, .val (.long q5), .second, .val (.int vt), .val (.long tk), .second, .val (.long lp), .second, .val (.long va), .second, .val (.long vb), .second, .val (.long vn), .second, .val (.ref b1), .val (.long ca), .second, .val (.long cb), .second, .val (.long vb), .second, .unset, .unset] [(.long vm1)])) _
    refine XS.lconst X7.here hx rfl (hb hby at_136) ?_
    show Steps p.tables e below (T7.setTop (mkF m 137 #[.val (.int p1), .val (.long q2), .second, .val (.long q3), .second, .val (.long q4), .second, .val (.long q5), .second, .val (.int vt), .val (.long tk), .second, .val (.long lp), .second, .val (.long va), .second, .val (.long vb), .second, .val (.long vn), .second, .val (.ref b1), .val (.long ca), .second, .val (.long cb), .second, .val (.long vb), .second, .unset, .unset] [(.long 1), (.long vm1)])) _
    refine XS.lsub X7.here hx rfl (hb hby at_137) rfl ?_
    show Steps p.tables e below (T7.setTop (mkF m 138 #[.val (.int p1), .val (.long q2), .second, .val (.long q3), .second, .val (.long q4), .second, .val (.long q5), .second, .val (.int vt), .val (.long tk), .second, .val (.long lp), .second, .val (.long va), .second, .val (.long vb), .second, .val (.long vn), .second, .val (.ref b1), .val (.long ca), .second, .val (.long cb), .second, .val (.long vb), .second, .unset, .unset] [(.long (vm1 - (1 : Int64)))])) _
    rw [hm]
    show Steps p.tables e below (T7.setTop (mkF m 138 #[.val (.int p1), .val (.long q2), .second, .val (.long q3), .second, .val (.long q4), .second, .val (.long q5), .second, .val (.int vt), .val (.long tk), .second, .val (.long lp), .second, .val (.long va), .second, .val (.long vb), .second, .val (.long vn), .second, .val (.ref b1), .val (.long ca), .second, .val (.long cb), .second, .val (.long vb), .second, .unset, .unset] [(.long vmm)])) _
    refine XS.lstore X7.here hx rfl (hb hby at_138) rfl (l' := #[.val (.int p1), .val (.long q2), .second, .val (.long q3), .second, .val (.long q4), .second, .val (.long q5), .second, .val (.int vt), .val (.long tk), .second, .val (.long lp), .second, .val (.long va), .second, .val (.long vb), .second, .val (.long vn), .second, .val (.ref b1), .val (.long ca), .second, .val (.long cb), .second, .val (.long vb), .second, .val (.long vmm), .second]) rfl ?_
    show Steps p.tables e below (T7.setTop (mkF m 140 #[.val (.int p1), .val (.long q2), .second, .val (.long q3), .second, .val (.long q4), .second, .val (.long q5), .second, .val (.int vt), .val (.long tk), .second, .val (.long lp), .second, .val (.long va), .second, .val (.long vb), .second, .val (.long vn), .second, .val (.ref b1), .val (.long ca), .second, .val (.long cb), .second, .val (.long vb), .second, .val (.long vmm), .second] [])) _
    refine XS.aload X7.here hx rfl (hb hby at_140) rfl rfl ?_
    show Steps p.tables e below (T7.setTop (mkF m 142 #[.val (.int p1), .val (.long q2), .second, .val (.long q3), .second, .val (.long q4), .second, .val (.long q5), .second, .val (.int vt), .val (.long tk), .second, .val (.long lp), .second, .val (.long va), .second, .val (.long vb), .second, .val (.long vn), .second, .val (.ref b1), .val (.long ca), .second, .val (.long cb), .second, .val (.long vb), .second, .val (.long vmm), .second] [(.ref b1)])) _
    refine XS.lload X7.here hx rfl (hb hby at_142) rfl ?_
    show Steps p.tables e below (T7.setTop (mkF m 144 #[.val (.int p1), .val (.long q2), .second, .val (.long q3), .second, .val (.long q4), .second, .val (.long q5), .second, .val (.int vt), .val (.long tk), .second, .val (.long lp), .second, .val (.long va), .second, .val (.long vb), .second, .val (.long vn), .second, .val (.ref b1), .val (.long ca), .second, .val (.long cb), .second, .val (.long vb), .second, .val (.long vmm), .second] [(.long vn), (.ref b1)])) _
    refine st8.trans ?_
    show Steps p.tables e below (T8.setTop (mkF m 147 #[.val (.int p1), .val (.long q2), .second, .val (.long q3), .second, .val (.long q4), .second, .val (.long q5), .second, .val (.int vt), .val (.long tk), .second, .val (.long lp), .second, .val (.long va), .second, .val (.long vb), .second, .val (.long vn), .second, .val (.ref b1), .val (.long ca), .second, .val (.long cb), .second, .val (.long vb), .second, .val (.long vmm), .second] [(.long (own_ref vn vb cb tk lp))])) _
    refine XS.lload X8.here hx rfl (hb hby at_147) rfl ?_
    show Steps p.tables e below (T8.setTop (mkF m 149 #[.val (.int p1), .val (.long q2), .second, .val (.long q3), .second, .val (.long q4), .second, .val (.long q5), .second, .val (.int vt), .val (.long tk), .second, .val (.long lp), .second, .val (.long va), .second, .val (.long vb), .second, .val (.long vn), .second, .val (.ref b1), .val (.long ca), .second, .val (.long cb), .second, .val (.long vb), .second, .val (.long vmm), .second] [(.long vn), (.long (own_ref vn vb cb tk lp))])) _
    refine XS.lload X8.here hx rfl (hb hby at_149) rfl ?_
    show Steps p.tables e below (T8.setTop (mkF m 151 #[.val (.int p1), .val (.long q2), .second, .val (.long q3), .second, .val (.long q4), .second, .val (.long q5), .second, .val (.int vt), .val (.long tk), .second, .val (.long lp), .second, .val (.long va), .second, .val (.long vb), .second, .val (.long vn), .second, .val (.ref b1), .val (.long ca), .second, .val (.long cb), .second, .val (.long vb), .second, .val (.long vmm), .second] [(.long vb), (.long vn), (.long (own_ref vn vb cb tk lp))])) _
    refine XS.lload X8.here hx rfl (hb hby at_151) rfl ?_
    show Steps p.tables e below (T8.setTop (mkF m 153 #[.val (.int p1), .val (.long q2), .second, .val (.long q3), .second, .val (.long q4), .second, .val (.long q5), .second, .val (.int vt), .val (.long tk), .second, .val (.long lp), .second, .val (.long va), .second, .val (.long vb), .second, .val (.long vn), .second, .val (.ref b1), .val (.long ca), .second, .val (.long cb), .second, .val (.long vb), .second, .val (.long vmm), .second] [(.long cb), (.long vb), (.long vn), (.long (own_ref vn vb cb tk lp))])) _
    refine XS.lload X8.here hx rfl (hb hby at_153) rfl ?_
    show Steps p.tables e below (T8.setTop (mkF m 155 #[.val (.int p1), .val (.long q2), .second, .val (.long q3), .second, .val (.long q4), .second, .val (.long q5), .second, .val (.int vt), .val (.long tk), .second, .val (.long lp), .second, .val (.long va), .second, .val (.long vb), .second, .val (.long vn), .second, .val (.ref b1), .val (.long ca), .second, .val (.long cb), .second, .val (.long vb), .second, .val (.long vmm), .second] [(.long tk), (.long cb), (.long vb), (.long vn), (.long (own_ref vn vb cb tk lp))])) _
    refine XS.lload X8.here hx rfl (hb hby at_155) rfl ?_
    show Steps p.tables e below (T8.setTop (mkF m 157 #[.val (.int p1), .val (.long q2), .second, .val (.long q3), .second, .val (.long q4), .second, .val (.long q5), .second, .val (.int vt), .val (.long tk), .second, .val (.long lp), .second, .val (.long va), .second, .val (.long vb), .second, .val (.long vn), .second, .val (.ref b1), .val (.long ca), .second, .val (.long cb), .second, .val (.long vb), .second, .val (.long vmm), .second] [(.long lp), (.long tk), (.long cb), (.long vb), (.long vn), (.long (own_ref vn vb cb tk lp))])) _
    refine st9 _ ?_
    show Steps p.tables e below (T9.setTop (mkF m 160 #[.val (.int p1), .val (.long q2), .second, .val (.long q3), .second, .val (.long q4), .second, .val (.long q5), .second, .val (.int vt), .val (.long tk), .second, .val (.long lp), .second, .val (.long va), .second, .val (.long vb), .second, .val (.long vn), .second, .val (.ref b1), .val (.long ca), .second, .val (.long cb), .second, .val (.long vb), .second, .val (.long vmm), .second] [(.long (own_ref vn vb cb tk lp)), (.long (own_ref vn vb cb tk lp))])) _
    refine XS.lcmp X9.here hx rfl (hb hby at_160) rfl ?_
    show Steps p.tables e below (T9.setTop (mkF m 161 #[.val (.int p1), .val (.long q2), .second, .val (.long q3), .second, .val (.long q4), .second, .val (.long q5), .second, .val (.int vt), .val (.long tk), .second, .val (.long lp), .second, .val (.long va), .second, .val (.long vb), .second, .val (.long vn), .second, .val (.ref b1), .val (.long ca), .second, .val (.long cb), .second, .val (.long vb), .second, .val (.long vmm), .second] [(.int (lcmpW (own_ref vn vb cb tk lp) (own_ref vn vb cb tk lp)))])) _
    rw [own_lcmp0]
    show Steps p.tables e below (T9.setTop (mkF m 161 #[.val (.int p1), .val (.long q2), .second, .val (.long q3), .second, .val (.long q4), .second, .val (.long q5), .second, .val (.int vt), .val (.long tk), .second, .val (.long lp), .second, .val (.long va), .second, .val (.long vb), .second, .val (.long vn), .second, .val (.ref b1), .val (.long ca), .second, .val (.long cb), .second, .val (.long vb), .second, .val (.long vmm), .second] [(.int 0)])) _
    refine XS.ifNo X9.here hx rfl (hb hby at_161) rfl ((if0 _ _).trans (teq (by decide : (0 : Int32) = (0 : Int32))).2) ?_
    show Steps p.tables e below (T9.setTop (mkF m 164 #[.val (.int p1), .val (.long q2), .second, .val (.long q3), .second, .val (.long q4), .second, .val (.long q5), .second, .val (.int vt), .val (.long tk), .second, .val (.long lp), .second, .val (.long va), .second, .val (.long vb), .second, .val (.long vn), .second, .val (.ref b1), .val (.long ca), .second, .val (.long cb), .second, .val (.long vb), .second, .val (.long vmm), .second] [])) _
    refine XS.aload X9.here hx rfl (hb hby at_164) rfl rfl ?_
    show Steps p.tables e below (T9.setTop (mkF m 166 #[.val (.int p1), .val (.long q2), .second, .val (.long q3), .second, .val (.long q4), .second, .val (.long q5), .second, .val (.int vt), .val (.long tk), .second, .val (.long lp), .second, .val (.long va), .second, .val (.long vb), .second, .val (.long vn), .second, .val (.ref b1), .val (.long ca), .second, .val (.long cb), .second, .val (.long vb), .second, .val (.long vmm), .second] [(.ref b1)])) _
    refine XS.lload X9.here hx rfl (hb hby at_166) rfl ?_
    show Steps p.tables e below (T9.setTop (mkF m 168 #[.val (.int p1), .val (.long q2), .second, .val (.long q3), .second, .val (.long q4), .second, .val (.long q5), .second, .val (.int vt), .val (.long tk), .second, .val (.long lp), .second, .val (.long va), .second, .val (.long vb), .second, .val (.long vn), .second, .val (.ref b1), .val (.long ca), .second, .val (.long cb), .second, .val (.long vb), .second, .val (.long vmm), .second] [(.long vb), (.ref b1)])) _
    refine XS.lconst X9.here hx rfl (hb hby at_168) ?_
    show Steps p.tables e below (T9.setTop (mkF m 169 #[.val (.int p1), .val (.long q2), .second, .val (.long q3), .second, .val (.long q4), .second, .val (.long q5), .second, .val (.int vt), .val (.long tk), .second, .val (.long lp), .second, .val (.long va), .second, .val (.long vb), .second, .val (.long vn), .second, .val (.ref b1), .val (.long ca), .second, .val (.long cb), .second, .val (.long vb), .second, .val (.long vmm), .second] [(.long 1), (.long vb), (.ref b1)])) _
    refine XS.lsub X9.here hx rfl (hb hby at_169) rfl ?_
    show Steps p.tables e below (T9.setTop (mkF m 170 #[.val (.int p1), .val (.long q2), .second, .val (.long q3), .second, .val (.long q4), .second, .val (.long q5), .second, .val (.int vt), .val (.long tk), .second, .val (.long lp), .second, .val (.long va), .second, .val (.long vb), .second, .val (.long vn), .second, .val (.ref b1), .val (.long ca), .second, .val (.long cb), .second, .val (.long vb), .second, .val (.long vmm), .second] [(.long (vb - (1 : Int64))), (.ref b1)])) _
    rw [hbm]
    show Steps p.tables e below (T9.setTop (mkF m 170 #[.val (.int p1), .val (.long q2), .second, .val (.long q3), .second, .val (.long q4), .second, .val (.long q5), .second, .val (.int vt), .val (.long tk), .second, .val (.long lp), .second, .val (.long va), .second, .val (.long vb), .second, .val (.long vn), .second, .val (.ref b1), .val (.long ca), .second, .val (.long cb), .second, .val (.long vb), .second, .val (.long vmm), .second] [(.long bm), (.ref b1)])) _
    refine st10.trans ?_
    show Steps p.tables e below (T10.setTop (mkF m 173 #[.val (.int p1), .val (.long q2), .second, .val (.long q3), .second, .val (.long q4), .second, .val (.long q5), .second, .val (.int vt), .val (.long tk), .second, .val (.long lp), .second, .val (.long va), .second, .val (.long vb), .second, .val (.long vn), .second, .val (.ref b1), .val (.long ca), .second, .val (.long cb), .second, .val (.long vb), .second, .val (.long vmm), .second] [(.long (own_ref bm vb cb tk lp))])) _
    refine XS.lload X10.here hx rfl (hb hby at_173) rfl ?_
    show Steps p.tables e below (T10.setTop (mkF m 175 #[.val (.int p1), .val (.long q2), .second, .val (.long q3), .second, .val (.long q4), .second, .val (.long q5), .second, .val (.int vt), .val (.long tk), .second, .val (.long lp), .second, .val (.long va), .second, .val (.long vb), .second, .val (.long vn), .second, .val (.ref b1), .val (.long ca), .second, .val (.long cb), .second, .val (.long vb), .second, .val (.long vmm), .second] [(.long vb), (.long (own_ref bm vb cb tk lp))])) _
    refine XS.lconst X10.here hx rfl (hb hby at_175) ?_
    show Steps p.tables e below (T10.setTop (mkF m 176 #[.val (.int p1), .val (.long q2), .second, .val (.long q3), .second, .val (.long q4), .second, .val (.long q5), .second, .val (.int vt), .val (.long tk), .second, .val (.long lp), .second, .val (.long va), .second, .val (.long vb), .second, .val (.long vn), .second, .val (.ref b1), .val (.long ca), .second, .val (.long cb), .second, .val (.long vb), .second, .val (.long vmm), .second] [(.long 1), (.long vb), (.long (own_ref bm vb cb tk lp))])) _
    refine XS.lsub X10.here hx rfl (hb hby at_176) rfl ?_
    show Steps p.tables e below (T10.setTop (mkF m 177 #[.val (.int p1), .val (.long q2), .second, .val (.long q3), .second, .val (.long q4), .second, .val (.long q5), .second, .val (.int vt), .val (.long tk), .second, .val (.long lp), .second, .val (.long va), .second, .val (.long vb), .second, .val (.long vn), .second, .val (.ref b1), .val (.long ca), .second, .val (.long cb), .second, .val (.long vb), .second, .val (.long vmm), .second] [(.long (vb - (1 : Int64))), (.long (own_ref bm vb cb tk lp))])) _
    rw [hbm]
    show Steps p.tables e below (T10.setTop (mkF m 177 #[.val (.int p1), .val (.long q2), .second, .val (.long q3), .second, .val (.long q4), .second, .val (.long q5), .second, .val (.int vt), .val (.long tk), .second, .val (.long lp), .second, .val (.long va), .second, .val (.long vb), .second, .val (.long vn), .second, .val (.ref b1), .val (.long ca), .second, .val (.long cb), .second, .val (.long vb), .second, .val (.long vmm), .second] [(.long bm), (.long (own_ref bm vb cb tk lp))])) _
    refine XS.lload X10.here hx rfl (hb hby at_177) rfl ?_
    show Steps p.tables e below (T10.setTop (mkF m 179 #[.val (.int p1), .val (.long q2), .second, .val (.long q3), .second, .val (.long q4), .second, .val (.long q5), .second, .val (.int vt), .val (.long tk), .second, .val (.long lp), .second, .val (.long va), .second, .val (.long vb), .second, .val (.long vn), .second, .val (.ref b1), .val (.long ca), .second, .val (.long cb), .second, .val (.long vb), .second, .val (.long vmm), .second] [(.long vb), (.long bm), (.long (own_ref bm vb cb tk lp))])) _
    refine XS.lload X10.here hx rfl (hb hby at_179) rfl ?_
    show Steps p.tables e below (T10.setTop (mkF m 181 #[.val (.int p1), .val (.long q2), .second, .val (.long q3), .second, .val (.long q4), .second, .val (.long q5), .second, .val (.int vt), .val (.long tk), .second, .val (.long lp), .second, .val (.long va), .second, .val (.long vb), .second, .val (.long vn), .second, .val (.ref b1), .val (.long ca), .second, .val (.long cb), .second, .val (.long vb), .second, .val (.long vmm), .second] [(.long cb), (.long vb), (.long bm), (.long (own_ref bm vb cb tk lp))])) _
    refine XS.lload X10.here hx rfl (hb hby at_181) rfl ?_
    show Steps p.tables e below (T10.setTop (mkF m 183 #[.val (.int p1), .val (.long q2), .second, .val (.long q3), .second, .val (.long q4), .second, .val (.long q5), .second, .val (.int vt), .val (.long tk), .second, .val (.long lp), .second, .val (.long va), .second, .val (.long vb), .second, .val (.long vn), .second, .val (.ref b1), .val (.long ca), .second, .val (.long cb), .second, .val (.long vb), .second, .val (.long vmm), .second] [(.long tk), (.long cb), (.long vb), (.long bm), (.long (own_ref bm vb cb tk lp))])) _
    refine XS.lload X10.here hx rfl (hb hby at_183) rfl ?_
    show Steps p.tables e below (T10.setTop (mkF m 185 #[.val (.int p1), .val (.long q2), .second, .val (.long q3), .second, .val (.long q4), .second, .val (.long q5), .second, .val (.int vt), .val (.long tk), .second, .val (.long lp), .second, .val (.long va), .second, .val (.long vb), .second, .val (.long vn), .second, .val (.ref b1), .val (.long ca), .second, .val (.long cb), .second, .val (.long vb), .second, .val (.long vmm), .second] [(.long lp), (.long tk), (.long cb), (.long vb), (.long bm), (.long (own_ref bm vb cb tk lp))])) _
    refine st11 _ ?_
    show Steps p.tables e below (T11.setTop (mkF m 188 #[.val (.int p1), .val (.long q2), .second, .val (.long q3), .second, .val (.long q4), .second, .val (.long q5), .second, .val (.int vt), .val (.long tk), .second, .val (.long lp), .second, .val (.long va), .second, .val (.long vb), .second, .val (.long vn), .second, .val (.ref b1), .val (.long ca), .second, .val (.long cb), .second, .val (.long vb), .second, .val (.long vmm), .second] [(.long (own_ref bm vb cb tk lp)), (.long (own_ref bm vb cb tk lp))])) _
    refine XS.lcmp X11.here hx rfl (hb hby at_188) rfl ?_
    show Steps p.tables e below (T11.setTop (mkF m 189 #[.val (.int p1), .val (.long q2), .second, .val (.long q3), .second, .val (.long q4), .second, .val (.long q5), .second, .val (.int vt), .val (.long tk), .second, .val (.long lp), .second, .val (.long va), .second, .val (.long vb), .second, .val (.long vn), .second, .val (.ref b1), .val (.long ca), .second, .val (.long cb), .second, .val (.long vb), .second, .val (.long vmm), .second] [(.int (lcmpW (own_ref bm vb cb tk lp) (own_ref bm vb cb tk lp)))])) _
    rw [own_lcmp0]
    show Steps p.tables e below (T11.setTop (mkF m 189 #[.val (.int p1), .val (.long q2), .second, .val (.long q3), .second, .val (.long q4), .second, .val (.long q5), .second, .val (.int vt), .val (.long tk), .second, .val (.long lp), .second, .val (.long va), .second, .val (.long vb), .second, .val (.long vn), .second, .val (.ref b1), .val (.long ca), .second, .val (.long cb), .second, .val (.long vb), .second, .val (.long vmm), .second] [(.int 0)])) _
    refine XS.ifNo X11.here hx rfl (hb hby at_189) rfl ((if0 _ _).trans (teq (by decide : (0 : Int32) = (0 : Int32))).2) ?_
    show Steps p.tables e below (T11.setTop (mkF m 192 #[.val (.int p1), .val (.long q2), .second, .val (.long q3), .second, .val (.long q4), .second, .val (.long q5), .second, .val (.int vt), .val (.long tk), .second, .val (.long lp), .second, .val (.long va), .second, .val (.long vb), .second, .val (.long vn), .second, .val (.ref b1), .val (.long ca), .second, .val (.long cb), .second, .val (.long vb), .second, .val (.long vmm), .second] [])) _
    refine XS.aload X11.here hx rfl (hb hby at_192) rfl rfl ?_
    show Steps p.tables e below (T11.setTop (mkF m 194 #[.val (.int p1), .val (.long q2), .second, .val (.long q3), .second, .val (.long q4), .second, .val (.long q5), .second, .val (.int vt), .val (.long tk), .second, .val (.long lp), .second, .val (.long va), .second, .val (.long vb), .second, .val (.long vn), .second, .val (.ref b1), .val (.long ca), .second, .val (.long cb), .second, .val (.long vb), .second, .val (.long vmm), .second] [(.ref b1)])) _
    refine XS.lload X11.here hx rfl (hb hby at_194) rfl ?_
    show Steps p.tables e below (T11.setTop (mkF m 196 #[.val (.int p1), .val (.long q2), .second, .val (.long q3), .second, .val (.long q4), .second, .val (.long q5), .second, .val (.int vt), .val (.long tk), .second, .val (.long lp), .second, .val (.long va), .second, .val (.long vb), .second, .val (.long vn), .second, .val (.ref b1), .val (.long ca), .second, .val (.long cb), .second, .val (.long vb), .second, .val (.long vmm), .second] [(.long vb), (.ref b1)])) _
    refine XS.lload X11.here hx rfl (hb hby at_196) rfl ?_
    show Steps p.tables e below (T11.setTop (mkF m 198 #[.val (.int p1), .val (.long q2), .second, .val (.long q3), .second, .val (.long q4), .second, .val (.long q5), .second, .val (.int vt), .val (.long tk), .second, .val (.long lp), .second, .val (.long va), .second, .val (.long vb), .second, .val (.long vn), .second, .val (.ref b1), .val (.long ca), .second, .val (.long cb), .second, .val (.long vb), .second, .val (.long vmm), .second] [(.long lp), (.long vb), (.ref b1)])) _
    refine XS.ladd X11.here hx rfl (hb hby at_198) rfl ?_
    show Steps p.tables e below (T11.setTop (mkF m 199 #[.val (.int p1), .val (.long q2), .second, .val (.long q3), .second, .val (.long q4), .second, .val (.long q5), .second, .val (.int vt), .val (.long tk), .second, .val (.long lp), .second, .val (.long va), .second, .val (.long vb), .second, .val (.long vn), .second, .val (.ref b1), .val (.long ca), .second, .val (.long cb), .second, .val (.long vb), .second, .val (.long vmm), .second] [(.long (vb + lp)), (.ref b1)])) _
    rw [hbl]
    show Steps p.tables e below (T11.setTop (mkF m 199 #[.val (.int p1), .val (.long q2), .second, .val (.long q3), .second, .val (.long q4), .second, .val (.long q5), .second, .val (.int vt), .val (.long tk), .second, .val (.long lp), .second, .val (.long va), .second, .val (.long vb), .second, .val (.long vn), .second, .val (.ref b1), .val (.long ca), .second, .val (.long cb), .second, .val (.long vb), .second, .val (.long vmm), .second] [(.long bl), (.ref b1)])) _
    refine st12.trans ?_
    show Steps p.tables e below (T12.setTop (mkF m 202 #[.val (.int p1), .val (.long q2), .second, .val (.long q3), .second, .val (.long q4), .second, .val (.long q5), .second, .val (.int vt), .val (.long tk), .second, .val (.long lp), .second, .val (.long va), .second, .val (.long vb), .second, .val (.long vn), .second, .val (.ref b1), .val (.long ca), .second, .val (.long cb), .second, .val (.long vb), .second, .val (.long vmm), .second] [(.long (own_ref bl vb cb tk lp))])) _
    refine XS.lload X12.here hx rfl (hb hby at_202) rfl ?_
    show Steps p.tables e below (T12.setTop (mkF m 204 #[.val (.int p1), .val (.long q2), .second, .val (.long q3), .second, .val (.long q4), .second, .val (.long q5), .second, .val (.int vt), .val (.long tk), .second, .val (.long lp), .second, .val (.long va), .second, .val (.long vb), .second, .val (.long vn), .second, .val (.ref b1), .val (.long ca), .second, .val (.long cb), .second, .val (.long vb), .second, .val (.long vmm), .second] [(.long vb), (.long (own_ref bl vb cb tk lp))])) _
    refine XS.lload X12.here hx rfl (hb hby at_204) rfl ?_
    show Steps p.tables e below (T12.setTop (mkF m 206 #[.val (.int p1), .val (.long q2), .second, .val (.long q3), .second, .val (.long q4), .second, .val (.long q5), .second, .val (.int vt), .val (.long tk), .second, .val (.long lp), .second, .val (.long va), .second, .val (.long vb), .second, .val (.long vn), .second, .val (.ref b1), .val (.long ca), .second, .val (.long cb), .second, .val (.long vb), .second, .val (.long vmm), .second] [(.long lp), (.long vb), (.long (own_ref bl vb cb tk lp))])) _
    refine XS.ladd X12.here hx rfl (hb hby at_206) rfl ?_
    show Steps p.tables e below (T12.setTop (mkF m 207 #[.val (.int p1), .val (.long q2), .second, .val (.long q3), .second, .val (.long q4), .second, .val (.long q5), .second, .val (.int vt), .val (.long tk), .second, .val (.long lp), .second, .val (.long va), .second, .val (.long vb), .second, .val (.long vn), .second, .val (.ref b1), .val (.long ca), .second, .val (.long cb), .second, .val (.long vb), .second, .val (.long vmm), .second] [(.long (vb + lp)), (.long (own_ref bl vb cb tk lp))])) _
    rw [hbl]
    show Steps p.tables e below (T12.setTop (mkF m 207 #[.val (.int p1), .val (.long q2), .second, .val (.long q3), .second, .val (.long q4), .second, .val (.long q5), .second, .val (.int vt), .val (.long tk), .second, .val (.long lp), .second, .val (.long va), .second, .val (.long vb), .second, .val (.long vn), .second, .val (.ref b1), .val (.long ca), .second, .val (.long cb), .second, .val (.long vb), .second, .val (.long vmm), .second] [(.long bl), (.long (own_ref bl vb cb tk lp))])) _
    refine XS.lload X12.here hx rfl (hb hby at_207) rfl ?_
    show Steps p.tables e below (T12.setTop (mkF m 209 #[.val (.int p1), .val (.long q2), .second, .val (.long q3), .second, .val (.long q4), .second, .val (.long q5), .second, .val (.int vt), .val (.long tk), .second, .val (.long lp), .second, .val (.long va), .second, .val (.long vb), .second, .val (.long vn), .second, .val (.ref b1), .val (.long ca), .second, .val (.long cb), .second, .val (.long vb), .second, .val (.long vmm), .second] [(.long vb), (.long bl), (.long (own_ref bl vb cb tk lp))])) _
    refine XS.lload X12.here hx rfl (hb hby at_209) rfl ?_
    show Steps p.tables e below (T12.setTop (mkF m 211 #[.val (.int p1), .val (.long q2), .second, .val (.long q3), .second, .val (.long q4), .second, .val (.long q5), .second, .val (.int vt), .val (.long tk), .second, .val (.long lp), .second, .val (.long va), .second, .val (.long vb), .second, .val (.long vn), .second, .val (.ref b1), .val (.long ca), .second, .val (.long cb), .second, .val (.long vb), .second, .val (.long vmm), .second] [(.long cb), (.long vb), (.long bl), (.long (own_ref bl vb cb tk lp))])) _
    refine XS.lload X12.here hx rfl (hb hby at_211) rfl ?_
    show Steps p.tables e below (T12.setTop (mkF m 213 #[.val (.int p1), .val (.long q2), .second, .val (.long q3), .second, .val (.long q4), .second, .val (.long q5), .second, .val (.int vt), .val (.long tk), .second, .val (.long lp), .second, .val (.long va), .second, .val (.long vb), .second, .val (.long vn), .second, .val (.ref b1), .val (.long ca), .second, .val (.long cb), .second, .val (.long vb), .second, .val (.long vmm), .second] [(.long tk), (.long cb), (.long vb), (.long bl), (.long (own_ref bl vb cb tk lp))])) _
    refine XS.lload X12.here hx rfl (hb hby at_213) rfl ?_
    show Steps p.tables e below (T12.setTop (mkF m 215 #[.val (.int p1), .val (.long q2), .second, .val (.long q3), .second, .val (.long q4), .second, .val (.long q5), .second, .val (.int vt), .val (.long tk), .second, .val (.long lp), .second, .val (.long va), .second, .val (.long vb), .second, .val (.long vn), .second, .val (.ref b1), .val (.long ca), .second, .val (.long cb), .second, .val (.long vb), .second, .val (.long vmm), .second] [(.long lp), (.long tk), (.long cb), (.long vb), (.long bl), (.long (own_ref bl vb cb tk lp))])) _
    refine st13 _ ?_
    show Steps p.tables e below (T13.setTop (mkF m 218 #[.val (.int p1), .val (.long q2), .second, .val (.long q3), .second, .val (.long q4), .second, .val (.long q5), .second, .val (.int vt), .val (.long tk), .second, .val (.long lp), .second, .val (.long va), .second, .val (.long vb), .second, .val (.long vn), .second, .val (.ref b1), .val (.long ca), .second, .val (.long cb), .second, .val (.long vb), .second, .val (.long vmm), .second] [(.long (own_ref bl vb cb tk lp)), (.long (own_ref bl vb cb tk lp))])) _
    refine XS.lcmp X13.here hx rfl (hb hby at_218) rfl ?_
    show Steps p.tables e below (T13.setTop (mkF m 219 #[.val (.int p1), .val (.long q2), .second, .val (.long q3), .second, .val (.long q4), .second, .val (.long q5), .second, .val (.int vt), .val (.long tk), .second, .val (.long lp), .second, .val (.long va), .second, .val (.long vb), .second, .val (.long vn), .second, .val (.ref b1), .val (.long ca), .second, .val (.long cb), .second, .val (.long vb), .second, .val (.long vmm), .second] [(.int (lcmpW (own_ref bl vb cb tk lp) (own_ref bl vb cb tk lp)))])) _
    rw [own_lcmp0]
    show Steps p.tables e below (T13.setTop (mkF m 219 #[.val (.int p1), .val (.long q2), .second, .val (.long q3), .second, .val (.long q4), .second, .val (.long q5), .second, .val (.int vt), .val (.long tk), .second, .val (.long lp), .second, .val (.long va), .second, .val (.long vb), .second, .val (.long vn), .second, .val (.ref b1), .val (.long ca), .second, .val (.long cb), .second, .val (.long vb), .second, .val (.long vmm), .second] [(.int 0)])) _
    refine XS.ifNo X13.here hx rfl (hb hby at_219) rfl ((if0 _ _).trans (teq (by decide : (0 : Int32) = (0 : Int32))).2) ?_
    show Steps p.tables e below (T13.setTop (mkF m 222 #[.val (.int p1), .val (.long q2), .second, .val (.long q3), .second, .val (.long q4), .second, .val (.long q5), .second, .val (.int vt), .val (.long tk), .second, .val (.long lp), .second, .val (.long va), .second, .val (.long vb), .second, .val (.long vn), .second, .val (.ref b1), .val (.long ca), .second, .val (.long cb), .second, .val (.long vb), .second, .val (.long vmm), .second] [])) _
    refine XS.aload X13.here hx rfl (hb hby at_222) rfl rfl ?_
    show Steps p.tables e below (T13.setTop (mkF m 224 #[.val (.int p1), .val (.long q2), .second, .val (.long q3), .second, .val (.long q4), .second, .val (.long q5), .second, .val (.int vt), .val (.long tk), .second, .val (.long lp), .second, .val (.long va), .second, .val (.long vb), .second, .val (.long vn), .second, .val (.ref b1), .val (.long ca), .second, .val (.long cb), .second, .val (.long vb), .second, .val (.long vmm), .second] [(.ref b1)])) _
    refine XS.lload X13.here hx rfl (hb hby at_224) rfl ?_
    show Steps p.tables e below (T13.setTop (mkF m 226 #[.val (.int p1), .val (.long q2), .second, .val (.long q3), .second, .val (.long q4), .second, .val (.long q5), .second, .val (.int vt), .val (.long tk), .second, .val (.long lp), .second, .val (.long va), .second, .val (.long vb), .second, .val (.long vn), .second, .val (.ref b1), .val (.long ca), .second, .val (.long cb), .second, .val (.long vb), .second, .val (.long vmm), .second] [(.long vb), (.ref b1)])) _
    refine XS.lload X13.here hx rfl (hb hby at_226) rfl ?_
    show Steps p.tables e below (T13.setTop (mkF m 228 #[.val (.int p1), .val (.long q2), .second, .val (.long q3), .second, .val (.long q4), .second, .val (.long q5), .second, .val (.int vt), .val (.long tk), .second, .val (.long lp), .second, .val (.long va), .second, .val (.long vb), .second, .val (.long vn), .second, .val (.ref b1), .val (.long ca), .second, .val (.long cb), .second, .val (.long vb), .second, .val (.long vmm), .second] [(.long lp), (.long vb), (.ref b1)])) _
    refine XS.ladd X13.here hx rfl (hb hby at_228) rfl ?_
    show Steps p.tables e below (T13.setTop (mkF m 229 #[.val (.int p1), .val (.long q2), .second, .val (.long q3), .second, .val (.long q4), .second, .val (.long q5), .second, .val (.int vt), .val (.long tk), .second, .val (.long lp), .second, .val (.long va), .second, .val (.long vb), .second, .val (.long vn), .second, .val (.ref b1), .val (.long ca), .second, .val (.long cb), .second, .val (.long vb), .second, .val (.long vmm), .second] [(.long (vb + lp)), (.ref b1)])) _
    rw [hbl]
    show Steps p.tables e below (T13.setTop (mkF m 229 #[.val (.int p1), .val (.long q2), .second, .val (.long q3), .second, .val (.long q4), .second, .val (.long q5), .second, .val (.int vt), .val (.long tk), .second, .val (.long lp), .second, .val (.long va), .second, .val (.long vb), .second, .val (.long vn), .second, .val (.ref b1), .val (.long ca), .second, .val (.long cb), .second, .val (.long vb), .second, .val (.long vmm), .second] [(.long bl), (.ref b1)])) _
    refine XS.lconst X13.here hx rfl (hb hby at_229) ?_
    show Steps p.tables e below (T13.setTop (mkF m 230 #[.val (.int p1), .val (.long q2), .second, .val (.long q3), .second, .val (.long q4), .second, .val (.long q5), .second, .val (.int vt), .val (.long tk), .second, .val (.long lp), .second, .val (.long va), .second, .val (.long vb), .second, .val (.long vn), .second, .val (.ref b1), .val (.long ca), .second, .val (.long cb), .second, .val (.long vb), .second, .val (.long vmm), .second] [(.long 1), (.long bl), (.ref b1)])) _
    refine XS.ladd X13.here hx rfl (hb hby at_230) rfl ?_
    show Steps p.tables e below (T13.setTop (mkF m 231 #[.val (.int p1), .val (.long q2), .second, .val (.long q3), .second, .val (.long q4), .second, .val (.long q5), .second, .val (.int vt), .val (.long tk), .second, .val (.long lp), .second, .val (.long va), .second, .val (.long vb), .second, .val (.long vn), .second, .val (.ref b1), .val (.long ca), .second, .val (.long cb), .second, .val (.long vb), .second, .val (.long vmm), .second] [(.long (bl + (1 : Int64))), (.ref b1)])) _
    rw [hbl1]
    show Steps p.tables e below (T13.setTop (mkF m 231 #[.val (.int p1), .val (.long q2), .second, .val (.long q3), .second, .val (.long q4), .second, .val (.long q5), .second, .val (.int vt), .val (.long tk), .second, .val (.long lp), .second, .val (.long va), .second, .val (.long vb), .second, .val (.long vn), .second, .val (.ref b1), .val (.long ca), .second, .val (.long cb), .second, .val (.long vb), .second, .val (.long vmm), .second] [(.long bl1), (.ref b1)])) _
    refine st14.trans ?_
    show Steps p.tables e below (T14.setTop (mkF m 234 #[.val (.int p1), .val (.long q2), .second, .val (.long q3), .second, .val (.long q4), .second, .val (.long q5), .second, .val (.int vt), .val (.long tk), .second, .val (.long lp), .second, .val (.long va), .second, .val (.long vb), .second, .val (.long vn), .second, .val (.ref b1), .val (.long ca), .second, .val (.long cb), .second, .val (.long vb), .second, .val (.long vmm), .second] [(.long (own_ref bl1 vb cb tk lp))])) _
    refine XS.lload X14.here hx rfl (hb hby at_234) rfl ?_
    show Steps p.tables e below (T14.setTop (mkF m 236 #[.val (.int p1), .val (.long q2), .second, .val (.long q3), .second, .val (.long q4), .second, .val (.long q5), .second, .val (.int vt), .val (.long tk), .second, .val (.long lp), .second, .val (.long va), .second, .val (.long vb), .second, .val (.long vn), .second, .val (.ref b1), .val (.long ca), .second, .val (.long cb), .second, .val (.long vb), .second, .val (.long vmm), .second] [(.long vb), (.long (own_ref bl1 vb cb tk lp))])) _
    refine XS.lload X14.here hx rfl (hb hby at_236) rfl ?_
    show Steps p.tables e below (T14.setTop (mkF m 238 #[.val (.int p1), .val (.long q2), .second, .val (.long q3), .second, .val (.long q4), .second, .val (.long q5), .second, .val (.int vt), .val (.long tk), .second, .val (.long lp), .second, .val (.long va), .second, .val (.long vb), .second, .val (.long vn), .second, .val (.ref b1), .val (.long ca), .second, .val (.long cb), .second, .val (.long vb), .second, .val (.long vmm), .second] [(.long lp), (.long vb), (.long (own_ref bl1 vb cb tk lp))])) _
    refine XS.ladd X14.here hx rfl (hb hby at_238) rfl ?_
    show Steps p.tables e below (T14.setTop (mkF m 239 #[.val (.int p1), .val (.long q2), .second, .val (.long q3), .second, .val (.long q4), .second, .val (.long q5), .second, .val (.int vt), .val (.long tk), .second, .val (.long lp), .second, .val (.long va), .second, .val (.long vb), .second, .val (.long vn), .second, .val (.ref b1), .val (.long ca), .second, .val (.long cb), .second, .val (.long vb), .second, .val (.long vmm), .second] [(.long (vb + lp)), (.long (own_ref bl1 vb cb tk lp))])) _
    rw [hbl]
    show Steps p.tables e below (T14.setTop (mkF m 239 #[.val (.int p1), .val (.long q2), .second, .val (.long q3), .second, .val (.long q4), .second, .val (.long q5), .second, .val (.int vt), .val (.long tk), .second, .val (.long lp), .second, .val (.long va), .second, .val (.long vb), .second, .val (.long vn), .second, .val (.ref b1), .val (.long ca), .second, .val (.long cb), .second, .val (.long vb), .second, .val (.long vmm), .second] [(.long bl), (.long (own_ref bl1 vb cb tk lp))])) _
    refine XS.lconst X14.here hx rfl (hb hby at_239) ?_
    show Steps p.tables e below (T14.setTop (mkF m 240 #[.val (.int p1), .val (.long q2), .second, .val (.long q3), .second, .val (.long q4), .second, .val (.long q5), .second, .val (.int vt), .val (.long tk), .second, .val (.long lp), .second, .val (.long va), .second, .val (.long vb), .second, .val (.long vn), .second, .val (.ref b1), .val (.long ca), .second, .val (.long cb), .second, .val (.long vb), .second, .val (.long vmm), .second] [(.long 1), (.long bl), (.long (own_ref bl1 vb cb tk lp))])) _
    refine XS.ladd X14.here hx rfl (hb hby at_240) rfl ?_
    show Steps p.tables e below (T14.setTop (mkF m 241 #[.val (.int p1), .val (.long q2), .second, .val (.long q3), .second, .val (.long q4), .second, .val (.long q5), .second, .val (.int vt), .val (.long tk), .second, .val (.long lp), .second, .val (.long va), .second, .val (.long vb), .second, .val (.long vn), .second, .val (.ref b1), .val (.long ca), .second, .val (.long cb), .second, .val (.long vb), .second, .val (.long vmm), .second] [(.long (bl + (1 : Int64))), (.long (own_ref bl1 vb cb tk lp))])) _
    rw [hbl1]
    show Steps p.tables e below (T14.setTop (mkF m 241 #[.val (.int p1), .val (.long q2), .second, .val (.long q3), .second, .val (.long q4), .second, .val (.long q5), .second, .val (.int vt), .val (.long tk), .second, .val (.long lp), .second, .val (.long va), .second, .val (.long vb), .second, .val (.long vn), .second, .val (.ref b1), .val (.long ca), .second, .val (.long cb), .second, .val (.long vb), .second, .val (.long vmm), .second] [(.long bl1), (.long (own_ref bl1 vb cb tk lp))])) _
    refine XS.lload X14.here hx rfl (hb hby at_241) rfl ?_
    show Steps p.tables e below (T14.setTop (mkF m 243 #[.val (.int p1), .val (.long q2), .second, .val (.long q3), .second, .val (.long q4), .second, .val (.long q5), .second, .val (.int vt), .val (.long tk), .second, .val (.long lp), .second, .val (.long va), .second, .val (.long vb), .second, .val (.long vn), .second, .val (.ref b1), .val (.long ca), .second, .val (.long cb), .second, .val (.long vb), .second, .val (.long vmm), .second] [(.long vb), (.long bl1), (.long (own_ref bl1 vb cb tk lp))])) _
    refine XS.lload X14.here hx rfl (hb hby at_243) rfl ?_
    show Steps p.tables e below (T14.setTop (mkF m 245 #[.val (.int p1), .val (.long q2), .second, .val (.long q3), .second, .val (.long q4), .second, .val (.long q5), .second, .val (.int vt), .val (.long tk), .second, .val (.long lp), .second, .val (.long va), .second, .val (.long vb), .second, .val (.long vn), .second, .val (.ref b1), .val (.long ca), .second, .val (.long cb), .second, .val (.long vb), .second, .val (.long vmm), .second] [(.long cb), (.long vb), (.long bl1), (.long (own_ref bl1 vb cb tk lp))])) _
    refine XS.lload X14.here hx rfl (hb hby at_245) rfl ?_
    show Steps p.tables e below (T14.setTop (mkF m 247 #[.val (.int p1), .val (.long q2), .second, .val (.long q3), .second, .val (.long q4), .second, .val (.long q5), .second, .val (.int vt), .val (.long tk), .second, .val (.long lp), .second, .val (.long va), .second, .val (.long vb), .second, .val (.long vn), .second, .val (.ref b1), .val (.long ca), .second, .val (.long cb), .second, .val (.long vb), .second, .val (.long vmm), .second] [(.long tk), (.long cb), (.long vb), (.long bl1), (.long (own_ref bl1 vb cb tk lp))])) _
    refine XS.lload X14.here hx rfl (hb hby at_247) rfl ?_
    show Steps p.tables e below (T14.setTop (mkF m 249 #[.val (.int p1), .val (.long q2), .second, .val (.long q3), .second, .val (.long q4), .second, .val (.long q5), .second, .val (.int vt), .val (.long tk), .second, .val (.long lp), .second, .val (.long va), .second, .val (.long vb), .second, .val (.long vn), .second, .val (.ref b1), .val (.long ca), .second, .val (.long cb), .second, .val (.long vb), .second, .val (.long vmm), .second] [(.long lp), (.long tk), (.long cb), (.long vb), (.long bl1), (.long (own_ref bl1 vb cb tk lp))])) _
    refine st15 _ ?_
    show Steps p.tables e below (T15.setTop (mkF m 252 #[.val (.int p1), .val (.long q2), .second, .val (.long q3), .second, .val (.long q4), .second, .val (.long q5), .second, .val (.int vt), .val (.long tk), .second, .val (.long lp), .second, .val (.long va), .second, .val (.long vb), .second, .val (.long vn), .second, .val (.ref b1), .val (.long ca), .second, .val (.long cb), .second, .val (.long vb), .second, .val (.long vmm), .second] [(.long (own_ref bl1 vb cb tk lp)), (.long (own_ref bl1 vb cb tk lp))])) _
    refine XS.lcmp X15.here hx rfl (hb hby at_252) rfl ?_
    show Steps p.tables e below (T15.setTop (mkF m 253 #[.val (.int p1), .val (.long q2), .second, .val (.long q3), .second, .val (.long q4), .second, .val (.long q5), .second, .val (.int vt), .val (.long tk), .second, .val (.long lp), .second, .val (.long va), .second, .val (.long vb), .second, .val (.long vn), .second, .val (.ref b1), .val (.long ca), .second, .val (.long cb), .second, .val (.long vb), .second, .val (.long vmm), .second] [(.int (lcmpW (own_ref bl1 vb cb tk lp) (own_ref bl1 vb cb tk lp)))])) _
    rw [own_lcmp0]
    show Steps p.tables e below (T15.setTop (mkF m 253 #[.val (.int p1), .val (.long q2), .second, .val (.long q3), .second, .val (.long q4), .second, .val (.long q5), .second, .val (.int vt), .val (.long tk), .second, .val (.long lp), .second, .val (.long va), .second, .val (.long vb), .second, .val (.long vn), .second, .val (.ref b1), .val (.long ca), .second, .val (.long cb), .second, .val (.long vb), .second, .val (.long vmm), .second] [(.int 0)])) _
    refine XS.ifNo X15.here hx rfl (hb hby at_253) rfl ((if0 _ _).trans (teq (by decide : (0 : Int32) = (0 : Int32))).2) ?_
    show Steps p.tables e below (T15.setTop (mkF m 256 #[.val (.int p1), .val (.long q2), .second, .val (.long q3), .second, .val (.long q4), .second, .val (.long q5), .second, .val (.int vt), .val (.long tk), .second, .val (.long lp), .second, .val (.long va), .second, .val (.long vb), .second, .val (.long vn), .second, .val (.ref b1), .val (.long ca), .second, .val (.long cb), .second, .val (.long vb), .second, .val (.long vmm), .second] [])) _
    refine XS.aload X15.here hx rfl (hb hby at_256) rfl rfl ?_
    show Steps p.tables e below (T15.setTop (mkF m 258 #[.val (.int p1), .val (.long q2), .second, .val (.long q3), .second, .val (.long q4), .second, .val (.long q5), .second, .val (.int vt), .val (.long tk), .second, .val (.long lp), .second, .val (.long va), .second, .val (.long vb), .second, .val (.long vn), .second, .val (.ref b1), .val (.long ca), .second, .val (.long cb), .second, .val (.long vb), .second, .val (.long vmm), .second] [(.ref b1)])) _
    refine XS.lload X15.here hx rfl (hb hby at_258) rfl ?_
    show Steps p.tables e below (T15.setTop (mkF m 260 #[.val (.int p1), .val (.long q2), .second, .val (.long q3), .second, .val (.long q4), .second, .val (.long q5), .second, .val (.int vt), .val (.long tk), .second, .val (.long lp), .second, .val (.long va), .second, .val (.long vb), .second, .val (.long vn), .second, .val (.ref b1), .val (.long ca), .second, .val (.long cb), .second, .val (.long vb), .second, .val (.long vmm), .second] [(.long vmm), (.ref b1)])) _
    refine st16.trans ?_
    show Steps p.tables e below (T16.setTop (mkF m 263 #[.val (.int p1), .val (.long q2), .second, .val (.long q3), .second, .val (.long q4), .second, .val (.long q5), .second, .val (.int vt), .val (.long tk), .second, .val (.long lp), .second, .val (.long va), .second, .val (.long vb), .second, .val (.long vn), .second, .val (.ref b1), .val (.long ca), .second, .val (.long cb), .second, .val (.long vb), .second, .val (.long vmm), .second] [(.long (own_ref vmm vb cb tk lp))])) _
    refine XS.lload X16.here hx rfl (hb hby at_263) rfl ?_
    show Steps p.tables e below (T16.setTop (mkF m 265 #[.val (.int p1), .val (.long q2), .second, .val (.long q3), .second, .val (.long q4), .second, .val (.long q5), .second, .val (.int vt), .val (.long tk), .second, .val (.long lp), .second, .val (.long va), .second, .val (.long vb), .second, .val (.long vn), .second, .val (.ref b1), .val (.long ca), .second, .val (.long cb), .second, .val (.long vb), .second, .val (.long vmm), .second] [(.long vmm), (.long (own_ref vmm vb cb tk lp))])) _
    refine XS.lload X16.here hx rfl (hb hby at_265) rfl ?_
    show Steps p.tables e below (T16.setTop (mkF m 267 #[.val (.int p1), .val (.long q2), .second, .val (.long q3), .second, .val (.long q4), .second, .val (.long q5), .second, .val (.int vt), .val (.long tk), .second, .val (.long lp), .second, .val (.long va), .second, .val (.long vb), .second, .val (.long vn), .second, .val (.ref b1), .val (.long ca), .second, .val (.long cb), .second, .val (.long vb), .second, .val (.long vmm), .second] [(.long vb), (.long vmm), (.long (own_ref vmm vb cb tk lp))])) _
    refine XS.lload X16.here hx rfl (hb hby at_267) rfl ?_
    show Steps p.tables e below (T16.setTop (mkF m 269 #[.val (.int p1), .val (.long q2), .second, .val (.long q3), .second, .val (.long q4), .second, .val (.long q5), .second, .val (.int vt), .val (.long tk), .second, .val (.long lp), .second, .val (.long va), .second, .val (.long vb), .second, .val (.long vn), .second, .val (.ref b1), .val (.long ca), .second, .val (.long cb), .second, .val (.long vb), .second, .val (.long vmm), .second] [(.long cb), (.long vb), (.long vmm), (.long (own_ref vmm vb cb tk lp))])) _
    refine XS.lload X16.here hx rfl (hb hby at_269) rfl ?_
    show Steps p.tables e below (T16.setTop (mkF m 271 #[.val (.int p1), .val (.long q2), .second, .val (.long q3), .second, .val (.long q4), .second, .val (.long q5), .second, .val (.int vt), .val (.long tk), .second, .val (.long lp), .second, .val (.long va), .second, .val (.long vb), .second, .val (.long vn), .second, .val (.ref b1), .val (.long ca), .second, .val (.long cb), .second, .val (.long vb), .second, .val (.long vmm), .second] [(.long tk), (.long cb), (.long vb), (.long vmm), (.long (own_ref vmm vb cb tk lp))])) _
    refine XS.lload X16.here hx rfl (hb hby at_271) rfl ?_
    show Steps p.tables e below (T16.setTop (mkF m 273 #[.val (.int p1), .val (.long q2), .second, .val (.long q3), .second, .val (.long q4), .second, .val (.long q5), .second, .val (.int vt), .val (.long tk), .second, .val (.long lp), .second, .val (.long va), .second, .val (.long vb), .second, .val (.long vn), .second, .val (.ref b1), .val (.long ca), .second, .val (.long cb), .second, .val (.long vb), .second, .val (.long vmm), .second] [(.long lp), (.long tk), (.long cb), (.long vb), (.long vmm), (.long (own_ref vmm vb cb tk lp))])) _
    refine st17 _ ?_
    show Steps p.tables e below (T17.setTop (mkF m 276 #[.val (.int p1), .val (.long q2), .second, .val (.long q3), .second, .val (.long q4), .second, .val (.long q5), .second, .val (.int vt), .val (.long tk), .second, .val (.long lp), .second, .val (.long va), .second, .val (.long vb), .second, .val (.long vn), .second, .val (.ref b1), .val (.long ca), .second, .val (.long cb), .second, .val (.long vb), .second, .val (.long vmm), .second] [(.long (own_ref vmm vb cb tk lp)), (.long (own_ref vmm vb cb tk lp))])) _
    refine XS.lcmp X17.here hx rfl (hb hby at_276) rfl ?_
    show Steps p.tables e below (T17.setTop (mkF m 277 #[.val (.int p1), .val (.long q2), .second, .val (.long q3), .second, .val (.long q4), .second, .val (.long q5), .second, .val (.int vt), .val (.long tk), .second, .val (.long lp), .second, .val (.long va), .second, .val (.long vb), .second, .val (.long vn), .second, .val (.ref b1), .val (.long ca), .second, .val (.long cb), .second, .val (.long vb), .second, .val (.long vmm), .second] [(.int (lcmpW (own_ref vmm vb cb tk lp) (own_ref vmm vb cb tk lp)))])) _
    rw [own_lcmp0]
    show Steps p.tables e below (T17.setTop (mkF m 277 #[.val (.int p1), .val (.long q2), .second, .val (.long q3), .second, .val (.long q4), .second, .val (.long q5), .second, .val (.int vt), .val (.long tk), .second, .val (.long lp), .second, .val (.long va), .second, .val (.long vb), .second, .val (.long vn), .second, .val (.ref b1), .val (.long ca), .second, .val (.long cb), .second, .val (.long vb), .second, .val (.long vmm), .second] [(.int 0)])) _
    refine XS.ifNo X17.here hx rfl (hb hby at_277) rfl ((if0 _ _).trans (teq (by decide : (0 : Int32) = (0 : Int32))).2) ?_
    show Steps p.tables e below (T17.setTop (mkF m 280 #[.val (.int p1), .val (.long q2), .second, .val (.long q3), .second, .val (.long q4), .second, .val (.long q5), .second, .val (.int vt), .val (.long tk), .second, .val (.long lp), .second, .val (.long va), .second, .val (.long vb), .second, .val (.long vn), .second, .val (.ref b1), .val (.long ca), .second, .val (.long cb), .second, .val (.long vb), .second, .val (.long vmm), .second] [])) _
    refine XS.iconst X17.here hx rfl (hb hby at_280) ?_
    show Steps p.tables e below (T17.setTop (mkF m 281 #[.val (.int p1), .val (.long q2), .second, .val (.long q3), .second, .val (.long q4), .second, .val (.long q5), .second, .val (.int vt), .val (.long tk), .second, .val (.long lp), .second, .val (.long va), .second, .val (.long vb), .second, .val (.long vn), .second, .val (.ref b1), .val (.long ca), .second, .val (.long cb), .second, .val (.long vb), .second, .val (.long vmm), .second] [(.int 1)])) _
    refine XS.goto X17.here hx rfl (pc0 := 281) (pc' := 285) rfl (hb hby at_281) (by decide) (by decide) ?_
    show Steps p.tables e below (T17.setTop (mkF m 285 #[.val (.int p1), .val (.long q2), .second, .val (.long q3), .second, .val (.long q4), .second, .val (.long q5), .second, .val (.int vt), .val (.long tk), .second, .val (.long lp), .second, .val (.long va), .second, .val (.long vb), .second, .val (.long vn), .second, .val (.ref b1), .val (.long ca), .second, .val (.long cb), .second, .val (.long vb), .second, .val (.long vmm), .second] [(.int 1)])) _
    exact retN X17 hx (t := .boolean) Bd.returns (by simp) (hb hby at_285) hr
  · show Q0_kgtgt Z p1 q2 q3 q4 q5 vt tk lp va vb vn w_MILLISECONDS w_DEFAULTCAPACITY_EMPTY_ELEMENTDATA ca cb vm1 vmm bm bl bl1 h0 n0 _ T17.heap _
    rw [e17]
    exact ⟨rfl, N17, trivial⟩
def Q19_o1_vb_v1 (Z : State) (o1 : Addr) (vb : Int64) (va : Int64) (lp : Int64) (tk : Int64) (ca : Int64) (o2 : Addr) (o3 : Addr) (h0 : Heap) (n0 : Nat) (v : Option Value) (h : Heap) (L : List Loc) : Prop := v = none ∧ Fr n0 L ∧ Keep h0 h [o1] ∧ Fld Z h o1 "com/example/epochcast/epochcast/server/SessionLeases" "lastHeartbeat" "J" (.long vb) ∧ Fld Z h o1 "com/example/epochcast/epochcast/server/SessionLeases" "lapse" "J" (.long lp) ∧ Exa Z h o1 "com/example/epochcast/epochcast/server/SessionLeases" ∧ Fld Z h o1 "com/example/epochcast/epochcast/server/SessionLeases" "tick" "J" (.long tk) ∧ Fld Z h o1 "com/example/epochcast/epochcast/server/SessionLeases" "countingFrom" "J" (.long ca) ∧ Fld Z h o1 "com/example/epochcast/epochcast/server/SessionLeases" "leases" "Ljava/util/Map;" (.ref o2) ∧ Fld Z h o1 "com/example/epochcast/epochcast/server/SessionLeases" "due" "Ljava/util/PriorityQueue;" (.ref o3)
set_option maxRecDepth 65536 in
set_option maxHeartbeats 40000000 in
theorem rm19_o1_vb_v1 (l : Launch) (Z : State) (a0 : Array Value) (hw : ∀ d ∈ tables_1, d.before a0 Z = true) (ws : List Jvm.Cond) (o1 : Addr) (vb : Int64) (va : Int64) (lp : Int64) (tk : Int64) (ca : Int64) (o2 : Addr) (o3 : Addr) (h0 : Heap) (n0 : Nat) (Z0 : n0 ≤ h0.size) (F_lastHeartbeat_o1 : Fld Z h0 o1 "com/example/epochcast/epochcast/server/SessionLeases" "lastHeartbeat" "J" (.long va)) (F_lapse_o1 : Fld Z h0 o1 "com/example/epochcast/epochcast/server/SessionLeases" "lapse" "J" (.long lp)) (hc11 : ¬ ((0 : Int32) < (lcmpW (vb - va) lp))) (E_o1 : Exa Z h0 o1 "com/example/epochcast/epochcast/server/SessionLeases") (g_o1 : n0 ≤ o1) (F_tick_o1 : Fld Z h0 o1 "com/example/epochcast/epochcast/server/SessionLeases" "tick" "J" (.long tk)) (F_countingFrom_o1 : Fld Z h0 o1 "com/example/epochcast/epochcast/server/SessionLeases" "countingFrom" "J" (.long ca)) (F_leases_o1 : Fld Z h0 o1 "com/example/epochcast/epochcast/server/SessionLeases" "leases" "Ljava/util/Map;" (.ref o2)) (F_due_o1 : Fld Z h0 o1 "com/example/epochcast/epochcast/server/SessionLeases" "due" "Ljava/util/PriorityQueue;" (.ref o3)) :
    MetFree l (⟨"com/example/epochcast/epochcast/server/SessionLeases", "heartbeat", "(J)V"⟩ : MethodName) (head1 (Jvm.Cond.code (⟨"com/example/epochcast/epochcast/server/SessionLeases", "heartbeat", "(J)V"⟩ : MethodName) prog_190_method_3_code 3 none :: ws) ({ frames := 0, cells := 0, slots := 0, locals := 0 } : Room)) (fun a U => a = #[(.ref o1), (.long vb)] ∧ Z.Warmed39 U.vm ∧ U.heap = h0) (fun _ _ _ _ _ => True) (fun _ U o U' => ∃ v L, o = .returned v ∧ Q19_o1_vb_v1 Z o1 vb va lp tk ca o2 o3 h0 n0 v U'.heap L ∧ FrameEnd U o U' L ({ frames := 0, cells := 0, slots := 0, locals := 0 } : Room).cells ({ frames := 0, cells := 0, slots := 0, locals := 0 } : Room).slots) := by
  refine MetFree.of_bodySF (plainFor_of_name pn_19) hisR ?_
  intro p e s m args below meth c s₁ Bd hml0 hP hK
  obtain ⟨rfl, hZ, hh⟩ := hP
  have hx := Bd.exec
  have hby := Bd.bytes
  have hml : c.maxLocals = 3 := hml0
  have hown : s.vm.findClass "com/example/epochcast/epochcast/server/SessionLeases" = some m.cls := findClass_of_methodNamed Bd.named
  have hnm := (name_of_methodNamed Bd.named Bd.method).1
  have X0 : Stand p l e ({ frames := 0, cells := 0, slots := 0, locals := 0 } : Room) s m #[(.ref o1), (.long vb)] below meth c s₁ [] 0 0 := Stand.of_body Bd
  have e0 : s₁.heap = h0 := by rw [← hh, Bd.state]; rfl
  have N0 := Fr.nil n0
  have pre0 : ∀ t, Steps p.tables e below (s₁.setTop (mkF m 0 #[.val (.ref o1), .val (.long vb), .second] [])) t → Steps p.tables e below (s₁.setTop (entryFrame m #[(.ref o1), (.long vb)] 3)) t := fun t k => castTop (by first | (simp [entryFrame, mkF, argsToLocals, Value.category]; done) | rfl) k
  obtain ⟨T1, X1, e1, st1⟩ := getF X0 hx hZ hown (host := "") (Or.inl (hw _ (List.mem_of_getElem? (i := 128) rfl))) Via.refl e0 F_lastHeartbeat_o1 (g := (mkF m 2 #[.val (.ref o1), .val (.long vb), .second] [(.ref o1), (.long vb)])) rfl rfl (hb hby d19_2)
  obtain ⟨T2, X2, e2, st2⟩ := getF X1 hx hZ hown (host := "") (Or.inl (hw _ (List.mem_of_getElem? (i := 75) rfl))) Via.refl e1 F_lapse_o1 (g := (mkF m 7 #[.val (.ref o1), .val (.long vb), .second] [(.ref o1), (.long (vb - va))])) rfl rfl (hb hby d19_7)
  obtain ⟨T3, h3, X3, e3, W3, st3⟩ := putF X2 hx hZ hown (host := "") (Or.inl (hw _ (List.mem_of_getElem? (i := 128) rfl))) Via.refl e2 F_lastHeartbeat_o1 E_o1 (Or.inl (hw _ (List.mem_of_getElem? (i := 129) rfl))) (hw _ (List.mem_of_getElem? (i := 4) rfl)) (ty := .long) (by decide) rfl rfl (g := (mkF m 26 #[.val (.ref o1), .val (.long vb), .second] [(.long vb), (.ref o1)])) rfl rfl (hb hby d19_26)
  have Fw3 := F_lastHeartbeat_o1.same W3
  have N3 := Fr.snoc X3 N0 g_o1
  have K3 : Keep h0 h3 [o1] := (Keep.refl h0 [o1]).wr W3 (Or.inl (List.mem_of_getElem? (i := 0) rfl))
  obtain ⟨fs, hr, hrun, hended, hW, hsame⟩ := X3.leave (v := none) (fun _ => rfl)
  refine ⟨_, _, pre0 _ ?_, hrun, hended, _, _, rfl, ?_, ⟨_, rfl⟩, hW, hsame.mono (by decide) (by decide)⟩
  · show Steps p.tables e below (s₁.setTop (mkF m 0 #[.val (.ref o1), .val (.long vb), .second] [])) _
    refine XS.lloadN X0.here hx rfl (hb hby d19_0) rfl ?_
    show Steps p.tables e below (s₁.setTop (mkF m 1 #[.val (.ref o1), .val (.long vb), .second] [(.long vb)])) _
    refine XS.aloadN X0.here hx rfl (hb hby d19_1) rfl rfl ?_
    show Steps p.tables e below (s₁.setTop (mkF m 2 #[.val (.ref o1), .val (.long vb), .second] [(.ref o1), (.long vb)])) _
    refine st1 _ ?_
    show Steps p.tables e below (T1.setTop (mkF m 5 #[.val (.ref o1), .val (.long vb), .second] [(.long va), (.long vb)])) _
    refine XS.lsub X1.here hx rfl (hb hby d19_5) rfl ?_
    show Steps p.tables e below (T1.setTop (mkF m 6 #[.val (.ref o1), .val (.long vb), .second] [(.long (vb - va))])) _
    refine XS.aloadN X1.here hx rfl (hb hby d19_6) rfl rfl ?_
    show Steps p.tables e below (T1.setTop (mkF m 7 #[.val (.ref o1), .val (.long vb), .second] [(.ref o1), (.long (vb - va))])) _
    refine st2 _ ?_
    show Steps p.tables e below (T2.setTop (mkF m 10 #[.val (.ref o1), .val (.long vb), .second] [(.long lp), (.long (vb - va))])) _
    refine XS.lcmp X2.here hx rfl (hb hby d19_10) rfl ?_
    show Steps p.tables e below (T2.setTop (mkF m 11 #[.val (.ref o1), .val (.long vb), .second] [(.int (lcmpW (vb - va) lp))])) _
    refine XS.ifYes X2.here hx rfl (pc0 := 11) (pc' := 24) rfl (hb hby d19_11) rfl ((if0 _ _).trans (flt hc11).2.2.2) (by decide) (by decide) ?_
    show Steps p.tables e below (T2.setTop (mkF m 24 #[.val (.ref o1), .val (.long vb), .second] [])) _
    refine XS.aloadN X2.here hx rfl (hb hby d19_24) rfl rfl ?_
    show Steps p.tables e below (T2.setTop (mkF m 25 #[.val (.ref o1), .val (.long vb), .second] [(.ref o1)])) _
    refine XS.lloadN X2.here hx rfl (hb hby d19_25) rfl ?_
    show Steps p.tables e below (T2.setTop (mkF m 26 #[.val (.ref o1), .val (.long vb), .second] [(.long vb), (.ref o1)])) _
    refine st3 _ ?_
    show Steps p.tables e below (T3.setTop (mkF m 29 #[.val (.ref o1), .val (.long vb), .second] [])) _
    exact X3.returnOut hx Bd.returns (hb hby d19_29) hr
  · show Q19_o1_vb_v1 Z o1 vb va lp tk ca o2 o3 h0 n0 _ T3.heap _
    rw [e3]
    exact ⟨rfl, N3, K3, Fw3, (F_lapse_o1.other W3 (Or.inr (slot_ne (Or.inr (hw _ (List.mem_of_getElem? (i := 76) rfl))) (Or.inl (hw _ (List.mem_of_getElem? (i := 129) rfl))) (by decide) (t := .long) (t' := .long) (by decide) (by decide)))), (E_o1.wr W3), (F_tick_o1.other W3 (Or.inr (slot_ne (Or.inr (hw _ (List.mem_of_getElem? (i := 73) rfl))) (Or.inl (hw _ (List.mem_of_getElem? (i := 129) rfl))) (by decide) (t := .long) (t' := .long) (by decide) (by decide)))), (F_countingFrom_o1.other W3 (Or.inr (slot_ne (Or.inl (hw _ (List.mem_of_getElem? (i := 131) rfl))) (Or.inl (hw _ (List.mem_of_getElem? (i := 129) rfl))) (by decide) (t := .long) (t' := .long) (by decide) (by decide)))), (F_leases_o1.other W3 (Or.inr (slot_ne (Or.inr (hw _ (List.mem_of_getElem? (i := 29) rfl))) (Or.inl (hw _ (List.mem_of_getElem? (i := 129) rfl))) (by decide) (t := (.object "java/util/Map")) (t' := .long) (by decide) (by decide)))), (F_due_o1.other W3 (Or.inr (slot_ne (Or.inr (hw _ (List.mem_of_getElem? (i := 60) rfl))) (Or.inl (hw _ (List.mem_of_getElem? (i := 129) rfl))) (by decide) (t := (.object "java/util/PriorityQueue")) (t' := .long) (by decide) (by decide))))⟩
def Q0_kgtle (Z : State) (p1 : Int32) (q2 : Int64) (q3 : Int64) (q4 : Int64) (q5 : Int64) (vt : Int32) (tk : Int64) (lp : Int64) (va : Int64) (vb : Int64) (vn : Int64) (w_MILLISECONDS : Addr) (w_DEFAULTCAPACITY_EMPTY_ELEMENTDATA : Addr) (ca : Int64) (vm1 : Int64) (vmm : Int64) (bm : Int64) (bl : Int64) (bl1 : Int64) (h0 : Heap) (n0 : Nat) (v : Option Value) (h : Heap) (L : List Loc) : Prop := v = some (.int 1) ∧ Fr n0 L ∧ True
set_option maxRecDepth 65536 in
set_option maxHeartbeats 40000000 in
theorem rm0_kgtle (l : Launch) (Z : State) (a0 : Array Value) (hw : ∀ d ∈ tables_1, d.before a0 Z = true) (ws : List Jvm.Cond) (p1 : Int32) (q2 : Int64) (q3 : Int64) (q4 : Int64) (q5 : Int64) (vt : Int32) (tk : Int64) (lp : Int64) (va : Int64) (vb : Int64) (vn : Int64) (w_MILLISECONDS : Addr) (w_DEFAULTCAPACITY_EMPTY_ELEMENTDATA : Addr) (ca : Int64) (vm1 : Int64) (vmm : Int64) (bm : Int64) (bl : Int64) (bl1 : Int64) (h0 : Heap) (n0 : Nat) (Z0 : n0 ≤ h0.size) (ht : (p1 &&& (2147483647 : Int32)) = vt) (htk : ((vt.toInt64) * (1000000 : Int64)) = tk) (hlp : (tk + (tk / (4 : Int64))) = lp) (hva : (q2 + q3) = va) (hvb : (va + q4) = vb) (hvn : (vb + q5) = vn) (S_MILLISECONDS : Sta Z h0 "java/util/concurrent/TimeUnit" "MILLISECONDS" "Ljava/util/concurrent/TimeUnit;" (.ref w_MILLISECONDS)) (F_scale_w_MILLISECONDS : Fld Z h0 w_MILLISECONDS "java/util/concurrent/TimeUnit" "scale" "J" (.long 1000000)) (F_maxNanos_w_MILLISECONDS : Fld Z h0 w_MILLISECONDS "java/util/concurrent/TimeUnit" "maxNanos" "J" (.long 9223372036854)) (hc22 : ¬ ((0 : Int32) < (lcmpW (vt.toInt64) (9223372036854 : Int64)))) (hc34 : ¬ ((lcmpW (vt.toInt64) (-9223372036854 : Int64)) < (0 : Int32))) (E_w_MILLISECONDS : Exa Z h0 w_MILLISECONDS "java/util/concurrent/TimeUnit") (S_DEFAULTCAPACITY_EMPTY_ELEMENTDATA : Sta Z h0 "java/util/ArrayList" "DEFAULTCAPACITY_EMPTY_ELEMENTDATA" "[Ljava/lang/Object;" (.ref w_DEFAULTCAPACITY_EMPTY_ELEMENTDATA)) (hc11 : (0 : Int32) < (lcmpW (va - q2) lp)) (hca : (va + tk) = ca) (hc11_o1_vb_v1 : ¬ ((0 : Int32) < (lcmpW (vb - va) lp))) (hc90 : (0 : Int32) < (lcmpW (va - q2) lp)) (hc112 : ¬ ((0 : Int32) < (lcmpW (vb - va) lp))) (hm1 : (ca - tk) = vm1) (hm : (vm1 - (1 : Int64)) = vmm) (hbm : (vb - (1 : Int64)) = bm) (hbl : (vb + lp) = bl) (hbl1 : (bl + (1 : Int64)) = bl1) :
    MetFree l x (head1 (Jvm.Cond.code x code maxLocals ret :: ws) room_1) (fun a U => a = #[(.int p1), (.long q2), (.long q3), (.long q4), (.long q5)] ∧ Z.Warmed39 U.vm ∧ U.heap = h0) (fun _ _ _ _ _ => True) (fun _ U o U' => ∃ v L, o = .returned v ∧ Q0_kgtle Z p1 q2 q3 q4 q5 vt tk lp va vb vn w_MILLISECONDS w_DEFAULTCAPACITY_EMPTY_ELEMENTDATA ca vm1 vmm bm bl bl1 h0 n0 v U'.heap L ∧ FrameEnd U o U' L room_1.cells room_1.slots) := by
  refine MetFree.of_bodySF (plainFor_of_name pn_0) hisR ?_
  intro p e s m args below meth c s₁ Bd hml0 hP hK
  obtain ⟨rfl, hZ, hh⟩ := hP
  have hx := Bd.exec
  have hby := Bd.bytes
  have hml : c.maxLocals = 29 := hml0
  have hown : s.vm.findClass "com/example/epochcast/epochcast/server/SessionLeasesHeartbeatPinLaw" = some m.cls := findClass_of_methodNamed Bd.named
  have hnm := (name_of_methodNamed Bd.named Bd.method).1
  have X0 : Stand p l e room_1 s m #[(.int p1), (.long q2), (.long q3), (.long q4), (.long q5)] below meth c s₁ [] 0 0 := Stand.of_body Bd
  have e0 : s₁.heap = h0 := by rw [← hh, Bd.state]; rfl
  have N0 := Fr.nil n0
  have pre0 : ∀ t, Steps p.tables e below (s₁.setTop (mkF m 0 #[.val (.int p1), .val (.long q2), .second, .val (.long q3), .second, .val (.long q4), .second, .val (.long q5), .second, .unset, .unset, .unset, .unset, .unset, .unset, .unset, .unset, .unset, .unset, .unset, .unset, .unset, .unset, .unset, .unset, .unset, .unset, .unset, .unset] [])) t → Steps p.tables e below (s₁.setTop (entryFrame m #[(.int p1), (.long q2), (.long q3), (.long q4), (.long q5)] maxLocals)) t := fun t k => castTop (by first | (simp [entryFrame, mkF, argsToLocals, Value.category, maxLocals]; done) | rfl) k
  obtain ⟨T1, h1, X1, e1, E1, A1, D1, -, st1⟩ := newO X0 hx hZ hown (hw _ (List.mem_of_getElem? (i := 3) rfl)) (hw _ (List.mem_of_getElem? (i := 4) rfl)) (hw _ (List.mem_of_getElem? (i := 5) rfl)) e0 (g := (mkF m 45 #[.val (.int p1), .val (.long q2), .second, .val (.long q3), .second, .val (.long q4), .second, .val (.long q5), .second, .val (.int vt), .val (.long tk), .second, .val (.long lp), .second, .val (.long va), .second, .val (.long vb), .second, .val (.long vn), .second, .unset, .unset, .unset, .unset, .unset, .unset, .unset, .unset, .unset] [])) rfl (hb hby at_45) (by decide) (by decide)
  obtain ⟨b1, g1⟩ : ∃ z, z = h0.size := ⟨_, rfl⟩
  have s_b1 : h0.size ≤ b1 := Nat.le_of_eq g1.symm
  have g_b1 : n0 ≤ b1 := Nat.le_trans Z0 s_b1
  have sz_b1 : h0.size ≤ b1 := s_b1
  rw [← g1] at A1 D1 st1
  have K1 : Keep h0 h1 [] := (Keep.refl h0 []).ext E1
  have F_leases_b1 : Fld Z h1 b1 "com/example/epochcast/epochcast/server/SessionLeases" "leases" "Ljava/util/Map;" .null := D1 (Or.inr (hw _ (List.mem_of_getElem? (i := 29) rfl))) (ty := (.object "java/util/Map")) (by decide)
  have F_due_b1 : Fld Z h1 b1 "com/example/epochcast/epochcast/server/SessionLeases" "due" "Ljava/util/PriorityQueue;" .null := D1 (Or.inr (hw _ (List.mem_of_getElem? (i := 60) rfl))) (ty := (.object "java/util/PriorityQueue")) (by decide)
  have F_tick_b1 : Fld Z h1 b1 "com/example/epochcast/epochcast/server/SessionLeases" "tick" "J" (.long 0) := D1 (Or.inr (hw _ (List.mem_of_getElem? (i := 73) rfl))) (ty := .long) (by decide)
  have F_lapse_b1 : Fld Z h1 b1 "com/example/epochcast/epochcast/server/SessionLeases" "lapse" "J" (.long 0) := D1 (Or.inr (hw _ (List.mem_of_getElem? (i := 76) rfl))) (ty := .long) (by decide)
  have F_lastHeartbeat_b1 : Fld Z h1 b1 "com/example/epochcast/epochcast/server/SessionLeases" "lastHeartbeat" "J" (.long 0) := D1 (Or.inl (hw _ (List.mem_of_getElem? (i := 129) rfl))) (ty := .long) (by decide)
  have F_countingFrom_b1 : Fld Z h1 b1 "com/example/epochcast/epochcast/server/SessionLeases" "countingFrom" "J" (.long 0) := D1 (Or.inl (hw _ (List.mem_of_getElem? (i := 131) rfl))) (ty := .long) (by decide)
  obtain ⟨_, _, ⟨T2, L2, k2, n2⟩, -, X2, ⟨Lc2, hQ2, l2, y2, z2⟩, st2⟩ := X1.specialBack hx (y := (⟨"com/example/epochcast/epochcast/server/SessionLeases", "<init>", "(I)V"⟩ : MethodName)) rfl hown (mvT hZ (hw _ (List.mem_of_getElem? (i := 6) rfl))) (mvT hZ (hw _ (List.mem_of_getElem? (i := 7) rfl))) (mvT hZ (hw _ (List.mem_of_getElem? (i := 8) rfl))) (by decide) (backOf (W := 1) (rm1_o1_vt l Z a0 hw [] b1 vt w_MILLISECONDS tk lp h1 n0 (Nat.le_trans Z0 K1.1) A1 F_leases_b1 g_b1 F_due_b1 (own_sta_keep S_MILLISECONDS K1) (F_scale_w_MILLISECONDS.keep K1 nin0) (Ne.symm (Nat.ne_of_lt (Nat.lt_of_lt_of_le (F_scale_w_MILLISECONDS).lt sz_b1))) (F_maxNanos_w_MILLISECONDS.keep K1 nin0) hc22 hc34 (E_w_MILLISECONDS.keep K1) htk F_tick_b1 hlp F_lapse_b1 F_lastHeartbeat_b1 F_countingFrom_b1) hZ (hw _ (List.mem_of_getElem? (i := 8) rfl)) (hw _ (List.mem_of_getElem? (i := 5) rfl)) (by decide) (by decide)) (g := (mkF m 51 #[.val (.int p1), .val (.long q2), .second, .val (.long q3), .second, .val (.long q4), .second, .val (.long q5), .second, .val (.int vt), .val (.long tk), .second, .val (.long lp), .second, .val (.long va), .second, .val (.long vb), .second, .val (.long vn), .second, .unset, .unset, .unset, .unset, .unset, .unset, .unset, .unset, .unset] [(.int vt), (.ref b1), (.ref b1)])) rfl (by rw [hml]; rfl) (Steps.refl _) (a := b1) (argsL := [(.int vt)]) (rest := [(.ref b1)]) (lenOf pd__I_V rfl) rfl (by show 2 * 0 + _ ≤ _; exact Nat.le_of_eq rfl) (hb hby at_51) (fun _ _ => ⟨rfl, e1, (by decide : 1 + 3 ≤ _), (by decide : 6 + 23 ≤ _)⟩)
  dsimp only [Pt.U, Pt.locs, Pt.cells, Pt.slots] at X2 l2 y2 z2 st2 hQ2
  subst l2 y2 z2
  obtain ⟨b2c1, b2c2, b2c3, kc2kd4, rfl, N2q, Kq2, s_b2c1, s_b2c2, s_b2c3, nq_b2c1_b2c2, nq_b2c1_b2c3, nq_b2c2_b2c3, fq2_0, fq2_1, fq2_2, fq2_3, fq2_4, fq2_5, fq2_6, fq2_7, fq2_8, fq2_9, fq2_10, fq2_11, fq2_12, fq2_13, fq2_14, fq2_15, fq2_16, fq2_17⟩ := hQ2
  have N2 := Fr.app N0 N2q
  have g_b2c1 : n0 ≤ b2c1 := Nat.le_trans (Nat.le_trans Z0 K1.1) s_b2c1
  have sz_b2c1 : h0.size ≤ b2c1 := Nat.le_trans K1.1 s_b2c1
  have g_b2c2 : n0 ≤ b2c2 := Nat.le_trans (Nat.le_trans Z0 K1.1) s_b2c2
  have sz_b2c2 : h0.size ≤ b2c2 := Nat.le_trans K1.1 s_b2c2
  have g_b2c3 : n0 ≤ b2c3 := Nat.le_trans (Nat.le_trans Z0 K1.1) s_b2c3
  have sz_b2c3 : h0.size ≤ b2c3 := Nat.le_trans K1.1 s_b2c3
  have K2 : Keep h0 T2.heap [] := K1.trans Kq2 (allS (Or.inr sz_b1) all0)
  obtain ⟨T3, h3, X3, e3, E3, A3, D3, -, st3⟩ := newO X2 hx hZ hown (hw _ (List.mem_of_getElem? (i := 77) rfl)) (hw _ (List.mem_of_getElem? (i := 78) rfl)) (hw _ (List.mem_of_getElem? (i := 79) rfl)) rfl (g := (mkF m 58 #[.val (.int p1), .val (.long q2), .second, .val (.long q3), .second, .val (.long q4), .second, .val (.long q5), .second, .val (.int vt), .val (.long tk), .second, .val (.long lp), .second, .val (.long va), .second, .val (.long vb), .second, .val (.long vn), .second, .val (.ref b1), .unset, .unset, .unset, .unset, .unset, .unset, .unset, .unset] [(.ref b1)])) rfl (hb hby at_58) (by decide) (by decide)
  obtain ⟨b3, g3⟩ : ∃ z, z = T2.heap.size := ⟨_, rfl⟩
  have s_b3 : T2.heap.size ≤ b3 := Nat.le_of_eq g3.symm
  have g_b3 : n0 ≤ b3 := Nat.le_trans (Nat.le_trans Z0 K2.1) s_b3
  have sz_b3 : h0.size ≤ b3 := Nat.le_trans K2.1 s_b3
  rw [← g3] at A3 D3 st3
  have K3 : Keep h0 h3 [] := K2.ext E3
  have F_modCount_b3 : Fld Z h3 b3 "java/util/AbstractList" "modCount" "I" (.int 0) := D3 (Or.inl (hw _ (List.mem_of_getElem? (i := 92) rfl))) (ty := .int) (by decide)
  have F_elementData_b3 : Fld Z h3 b3 "java/util/ArrayList" "elementData" "[Ljava/lang/Object;" .null := D3 (Or.inl (hw _ (List.mem_of_getElem? (i := 95) rfl))) (ty := (.array (.object "java/lang/Object"))) (by decide)
  have F_size_b3 : Fld Z h3 b3 "java/util/ArrayList" "size" "I" (.int 0) := D3 (Or.inl (hw _ (List.mem_of_getElem? (i := 169) rfl))) (ty := .int) (by decide)
  obtain ⟨_, _, ⟨T4, L4, k4, n4⟩, -, X4, ⟨Lc4, hQ4, l4, y4, z4⟩, st4⟩ := X3.specialBack hx (y := (⟨"java/util/ArrayList", "<init>", "()V"⟩ : MethodName)) rfl hown (mvT hZ (hw _ (List.mem_of_getElem? (i := 80) rfl))) (mvT hZ (hw _ (List.mem_of_getElem? (i := 81) rfl))) (mvT hZ (hw _ (List.mem_of_getElem? (i := 82) rfl))) (by decide) (backOf (W := 2) (rm10_o1 l Z a0 hw [] b3 w_DEFAULTCAPACITY_EMPTY_ELEMENTDATA h3 n0 (Nat.le_trans Z0 K3.1) A3 F_modCount_b3 g_b3 F_elementData_b3 F_size_b3 (own_sta_keep S_DEFAULTCAPACITY_EMPTY_ELEMENTDATA K3)) hZ (hw _ (List.mem_of_getElem? (i := 82) rfl)) (hw _ (List.mem_of_getElem? (i := 79) rfl)) (by decide) (by decide)) (g := (mkF m 62 #[.val (.int p1), .val (.long q2), .second, .val (.long q3), .second, .val (.long q4), .second, .val (.long q5), .second, .val (.int vt), .val (.long tk), .second, .val (.long lp), .second, .val (.long va), .second, .val (.long vb), .second, .val (.long vn), .second, .val (.ref b1), .unset, .unset, .unset, .unset, .unset, .unset, .unset, .unset] [(.ref b3), (.ref b3), (.ref b1)])) rfl (by rw [hml]; rfl) (Steps.refl _) (a := b3) (argsL := []) (rest := [(.ref b3), (.ref b1)]) (lenOf pd___V rfl) rfl (by show 2 * 0 + _ ≤ _; exact Nat.le_of_eq rfl) (hb hby at_62) (fun _ _ => ⟨rfl, e3, (by decide : 5 + 0 ≤ _), (by decide : 32 + 0 ≤ _)⟩)
  dsimp only [Pt.U, Pt.locs, Pt.cells, Pt.slots] at X4 l4 y4 z4 st4 hQ4
  subst l4 y4 z4
  obtain ⟨rfl, N4q, Kq4, fq4_0, fq4_1, fq4_2, fq4_3⟩ := hQ4
  have N4 := Fr.app N2 N4q
  have K4 : Keep h0 T4.heap [] := K3.trans Kq4 (allS (Or.inr sz_b3) all0)
  obtain ⟨cq5, kq5, q5a, q5b, q5c⟩ := isOf hZ rfl ((fq2_0.ext E3).keep Kq4)
  obtain ⟨_, _, ⟨T5, L5, k5, n5⟩, -, X5, ⟨Lc5, hQ5, l5, y5, z5⟩, st5⟩ := X4.virtualBack hx (y := (⟨"com/example/epochcast/epochcast/server/SessionLeases", "begin", "(Ljava/util/Collection;J)V"⟩ : MethodName)) (z := (⟨"com/example/epochcast/epochcast/server/SessionLeases", "begin", "(Ljava/util/Collection;J)V"⟩ : MethodName)) hown (mvT hZ (hw _ (List.mem_of_getElem? (i := 96) rfl))) (mvT hZ (hw _ (List.mem_of_getElem? (i := 97) rfl))) (notFace_of_selects (args := #[]) (mvT hZ (hw _ (List.mem_of_getElem? (i := 99) rfl)))) (mvT hZ (hw _ (List.mem_of_getElem? (i := 99) rfl))) (mvT hZ (hw _ (List.mem_of_getElem? (i := 98) rfl))) (by decide) (backOf (W := 0) (rm12_o1_o2_q2 l Z a0 hw [] b1 b3 q2 b2c1 b2c2 b2c3 tk lp T4.heap n0 (Nat.le_trans Z0 K4.1) ((fq2_1.ext E3).keep Kq4 (ninS (Nat.ne_of_lt (Nat.lt_of_lt_of_le (fq2_0).lt s_b3)) nin0)) ((fq2_9.ext E3).keep Kq4 (ninS (Nat.ne_of_lt (Nat.lt_of_lt_of_le (fq2_7).lt s_b3)) nin0)) ((fq2_7.ext E3).keep Kq4) g_b2c1 ((fq2_10.ext E3).keep Kq4 (ninS (Nat.ne_of_lt (Nat.lt_of_lt_of_le (fq2_7).lt s_b3)) nin0)) ((fq2_8.ext E3).keep Kq4 (ninS (Nat.ne_of_lt (Nat.lt_of_lt_of_le (fq2_7).lt s_b3)) nin0)) ((fq2_2.ext E3).keep Kq4 (ninS (Nat.ne_of_lt (Nat.lt_of_lt_of_le (fq2_0).lt s_b3)) nin0)) (Nat.ne_of_lt (Nat.lt_of_lt_of_le (A1).lt s_b2c1)) ((fq2_14.ext E3).keep Kq4 (ninS (Nat.ne_of_lt (Nat.lt_of_lt_of_le (fq2_11).lt s_b3)) nin0)) nq_b2c1_b2c2 ((fq2_11.ext E3).keep Kq4) g_b2c2 ((fq2_12.ext E3).keep Kq4 (ninS (Nat.ne_of_lt (Nat.lt_of_lt_of_le (fq2_11).lt s_b3)) nin0)) ((fq2_15.ext E3).keep Kq4 (ninS (Nat.ne_of_lt (Nat.lt_of_lt_of_le (fq2_11).lt s_b3)) nin0)) ((fq2_13.ext E3).keep Kq4 (ninS (Nat.ne_of_lt (Nat.lt_of_lt_of_le (fq2_11).lt s_b3)) nin0)) ((fq2_0.ext E3).keep Kq4) ((fq2_5.ext E3).keep Kq4 (ninS (Nat.ne_of_lt (Nat.lt_of_lt_of_le (fq2_0).lt s_b3)) nin0)) (Nat.ne_of_lt (Nat.lt_of_lt_of_le (A1).lt s_b2c2)) g_b1 ((fq2_6.ext E3).keep Kq4 (ninS (Nat.ne_of_lt (Nat.lt_of_lt_of_le (fq2_0).lt s_b3)) nin0)) fq4_1 (Ne.symm (Nat.ne_of_lt (Nat.lt_of_lt_of_le (fq2_11).lt s_b3))) (Ne.symm (Nat.ne_of_lt (Nat.lt_of_lt_of_le (fq2_7).lt s_b3))) (Nat.ne_of_lt (Nat.lt_of_lt_of_le (fq2_0).lt s_b3)) fq4_0 fq4_3 ((fq2_3.ext E3).keep Kq4 (ninS (Nat.ne_of_lt (Nat.lt_of_lt_of_le (fq2_0).lt s_b3)) nin0)) ((fq2_4.ext E3).keep Kq4 (ninS (Nat.ne_of_lt (Nat.lt_of_lt_of_le (fq2_0).lt s_b3)) nin0))) hZ (hw _ (List.mem_of_getElem? (i := 100) rfl)) (hw _ (List.mem_of_getElem? (i := 5) rfl)) (by decide) (by decide)) q5a q5c (g := (mkF m 66 #[.val (.int p1), .val (.long q2), .second, .val (.long q3), .second, .val (.long q4), .second, .val (.long q5), .second, .val (.int vt), .val (.long tk), .second, .val (.long lp), .second, .val (.long va), .second, .val (.long vb), .second, .val (.long vn), .second, .val (.ref b1), .unset, .unset, .unset, .unset, .unset, .unset, .unset, .unset] [(.long q2), (.ref b3), (.ref b1)])) rfl (by rw [hml]; rfl) (Steps.refl _) (argsL := [(.ref b3), (.long q2)]) (rest := []) (lenOf pd__Ljava_util_Collection_J_V rfl) rfl (by show 2 * 0 + _ ≤ _; exact Nat.le_of_eq rfl) (hb hby at_66) (fun _ _ => ⟨rfl, rfl, (by decide : 5 + 1 ≤ _), (by decide : 32 + 4 ≤ _)⟩)
  dsimp only [Pt.U, Pt.locs, Pt.cells, Pt.slots] at X5 l5 y5 z5 st5 hQ5
  subst l5 y5 z5
  obtain ⟨rfl, N5q, Kq5, fq5_0, fq5_1, fq5_2, fq5_3, fq5_4, fq5_5, fq5_6, fq5_7, fq5_8, fq5_9, fq5_10, fq5_11, fq5_12, fq5_13, fq5_14, fq5_15⟩ := hQ5
  have N5 := Fr.app N4 N5q
  have K5 : Keep h0 T5.heap [] := K4.trans Kq5 (allS (Or.inr sz_b2c1) (allS (Or.inr sz_b2c2) (allS (Or.inr sz_b1) all0)))
  obtain ⟨cq6, kq6, q6a, q6b, q6c⟩ := isOf hZ rfl fq5_11
  obtain ⟨_, _, ⟨T6, L6, k6, n6⟩, -, X6, ⟨Lc6, hQ6, l6, y6, z6⟩, st6⟩ := X5.virtualBack hx (y := (⟨"com/example/epochcast/epochcast/server/SessionLeases", "heartbeat", "(J)V"⟩ : MethodName)) (z := (⟨"com/example/epochcast/epochcast/server/SessionLeases", "heartbeat", "(J)V"⟩ : MethodName)) hown (mvT hZ (hw _ (List.mem_of_getElem? (i := 170) rfl))) (mvT hZ (hw _ (List.mem_of_getElem? (i := 171) rfl))) (notFace_of_selects (args := #[]) (mvT hZ (hw _ (List.mem_of_getElem? (i := 173) rfl)))) (mvT hZ (hw _ (List.mem_of_getElem? (i := 173) rfl))) (mvT hZ (hw _ (List.mem_of_getElem? (i := 172) rfl))) (by decide) (backOf (W := 0) (rm19_o1_va l Z a0 hw [] b1 va q2 lp tk ca b2c1 b2c2 T5.heap n0 (Nat.le_trans Z0 K5.1) fq5_12 fq5_15 hc11 fq5_14 hca fq5_11 fq5_13 g_b1 fq5_9 fq5_10) hZ (hw _ (List.mem_of_getElem? (i := 174) rfl)) (hw _ (List.mem_of_getElem? (i := 5) rfl)) (by decide) (by decide)) q6a q6c (g := (mkF m 73 #[.val (.int p1), .val (.long q2), .second, .val (.long q3), .second, .val (.long q4), .second, .val (.long q5), .second, .val (.int vt), .val (.long tk), .second, .val (.long lp), .second, .val (.long va), .second, .val (.long vb), .second, .val (.long vn), .second, .val (.ref b1), .unset, .unset, .unset, .unset, .unset, .unset, .unset, .unset] [(.long va), (.ref b1)])) rfl (by rw [hml]; rfl) (Steps.refl _) (argsL := [(.long va)]) (rest := []) (lenOf pd__J_V rfl) rfl (by show 2 * 0 + _ ≤ _; exact Nat.le_of_eq rfl) (hb hby at_73) (fun _ _ => ⟨rfl, rfl, (by decide : 6 + 0 ≤ _), (by decide : 36 + 0 ≤ _)⟩)
  dsimp only [Pt.U, Pt.locs, Pt.cells, Pt.slots] at X6 l6 y6 z6 st6 hQ6
  subst l6 y6 z6
  obtain ⟨rfl, N6q, Kq6, fq6_0, fq6_1, fq6_2, fq6_3, fq6_4, fq6_5, fq6_6⟩ := hQ6
  have N6 := Fr.app N5 N6q
  have K6 : Keep h0 T6.heap [] := K5.trans Kq6 (allS (Or.inr sz_b1) all0)
  obtain ⟨cq7, kq7, q7a, q7b, q7c⟩ := isOf hZ rfl fq6_3
  obtain ⟨_, _, ⟨T7, L7, k7, n7⟩, -, X7, ⟨Lc7, hQ7, l7, y7, z7⟩, st7⟩ := X6.virtualBack hx (y := (⟨"com/example/epochcast/epochcast/server/SessionLeases", "heartbeat", "(J)V"⟩ : MethodName)) (z := (⟨"com/example/epochcast/epochcast/server/SessionLeases", "heartbeat", "(J)V"⟩ : MethodName)) hown (mvT hZ (hw _ (List.mem_of_getElem? (i := 170) rfl))) (mvT hZ (hw _ (List.mem_of_getElem? (i := 171) rfl))) (notFace_of_selects (args := #[]) (mvT hZ (hw _ (List.mem_of_getElem? (i := 173) rfl)))) (mvT hZ (hw _ (List.mem_of_getElem? (i := 173) rfl))) (mvT hZ (hw _ (List.mem_of_getElem? (i := 172) rfl))) (by decide) (backOf (W := 0) (rm19_o1_vb_v1 l Z a0 hw [] b1 vb va lp tk ca b2c1 b2c2 T6.heap n0 (Nat.le_trans Z0 K6.1) fq6_0 fq6_1 hc11_o1_vb_v1 fq6_3 g_b1 fq6_2 fq6_4 fq6_5 fq6_6) hZ (hw _ (List.mem_of_getElem? (i := 174) rfl)) (hw _ (List.mem_of_getElem? (i := 5) rfl)) (by decide) (by decide)) q7a q7c (g := (mkF m 80 #[.val (.int p1), .val (.long q2), .second, .val (.long q3), .second, .val (.long q4), .second, .val (.long q5), .second, .val (.int vt), .val (.long tk), .second, .val (.long lp), .second, .val (.long va), .second, .val (.long vb), .second, .val (.long vn), .second, .val (.ref b1), .unset, .unset, .unset, .unset, .unset, .unset, .unset, .unset] [(.long vb), (.ref b1)])) rfl (by rw [hml]; rfl) (Steps.refl _) (argsL := [(.long vb)]) (rest := []) (lenOf pd__J_V rfl) rfl (by show 2 * 0 + _ ≤ _; exact Nat.le_of_eq rfl) (hb hby at_80) (fun _ _ => ⟨rfl, rfl, (by decide : 6 + 0 ≤ _), (by decide : 36 + 0 ≤ _)⟩)
  dsimp only [Pt.U, Pt.locs, Pt.cells, Pt.slots] at X7 l7 y7 z7 st7 hQ7
  subst l7 y7 z7
  obtain ⟨rfl, N7q, Kq7, fq7_0, fq7_1, fq7_2, fq7_3, fq7_4, fq7_5, fq7_6⟩ := hQ7
  have N7 := Fr.app N6 N7q
  have K7 : Keep h0 T7.heap [] := K6.trans Kq7 (allS (Or.inr sz_b1) all0)
  obtain ⟨cq8, kq8, q8a, q8b, q8c⟩ := isOf hZ rfl fq7_2
  obtain ⟨_, _, ⟨T8, L8, k8, n8⟩, -, X8, ⟨Lc8, hQ8, l8, y8, z8⟩, st8⟩ := X7.virtualBack hx (y := (⟨"com/example/epochcast/epochcast/server/SessionLeases", "nextCheck", "(J)J"⟩ : MethodName)) (z := (⟨"com/example/epochcast/epochcast/server/SessionLeases", "nextCheck", "(J)J"⟩ : MethodName)) hown (mvT hZ (hw _ (List.mem_of_getElem? (i := 175) rfl))) (mvT hZ (hw _ (List.mem_of_getElem? (i := 176) rfl))) (notFace_of_selects (args := #[]) (mvT hZ (hw _ (List.mem_of_getElem? (i := 178) rfl)))) (mvT hZ (hw _ (List.mem_of_getElem? (i := 178) rfl))) (mvT hZ (hw _ (List.mem_of_getElem? (i := 177) rfl))) (by decide) (backOf (W := 0) (rm20_nx l Z a0 hw [] b1 vn tk vb lp ca b2c2 b2c3 kc2kd4 T7.heap n0 (Nat.le_trans Z0 K7.1) fq7_3 fq7_0 fq7_1 fq7_6 ((fq5_6.keep Kq6 (ninS (Ne.symm (Nat.ne_of_lt (Nat.lt_of_lt_of_le (A1).lt s_b2c2))) nin0)).keep Kq7 (ninS (Ne.symm (Nat.ne_of_lt (Nat.lt_of_lt_of_le (A1).lt s_b2c2))) nin0)) (((((fq2_16.ext E3).keep Kq4 (ninS (Nat.ne_of_lt (Nat.lt_of_lt_of_le (fq2_16).lt s_b3)) nin0)).keep Kq5 (ninS (Ne.symm nq_b2c1_b2c3) (ninS (Ne.symm nq_b2c2_b2c3) (ninS (Ne.symm (Nat.ne_of_lt (Nat.lt_of_lt_of_le (A1).lt s_b2c3))) nin0)))).keep Kq6 (ninS (Ne.symm (Nat.ne_of_lt (Nat.lt_of_lt_of_le (A1).lt s_b2c3))) nin0)).keep Kq7 (ninS (Ne.symm (Nat.ne_of_lt (Nat.lt_of_lt_of_le (A1).lt s_b2c3))) nin0)) ((fq5_4.keep Kq6).keep Kq7) fq7_4) hZ (hw _ (List.mem_of_getElem? (i := 179) rfl)) (hw _ (List.mem_of_getElem? (i := 5) rfl)) (by decide) (by decide)) q8a q8c (g := (mkF m 144 #[.val (.int p1), .val (.long q2), .second, .val (.long q3), .second, .val (.long q4), .second, .val (.long q5), .second, .val (.int vt), .val (.long tk), .second, .val (.long lp), .second, .val (.long va), .second, .val (.long vb), .second, .val (.long vn), .second, .val (.ref b1), .val (.long ca), .second, .val (.long ca), .second, .val (.long vb), .second, .val (.long vmm), .second] [(.long vn), (.ref b1)])) rfl (by rw [hml]; rfl) (Steps.refl _) (argsL := [(.long vn)]) (rest := []) (lenOf pd__J_J rfl) rfl (by show 2 * 0 + _ ≤ _; exact Nat.le_of_eq rfl) (hb hby at_144) (fun _ _ => ⟨rfl, rfl, (by decide : 6 + 0 ≤ _), (by decide : 36 + 0 ≤ _)⟩)
  dsimp only [Pt.U, Pt.locs, Pt.cells, Pt.slots] at X8 l8 y8 z8 st8 hQ8
  subst l8 y8 z8
  obtain ⟨rfl, N8q, e8⟩ := hQ8
  have N8 := Fr.app N7 N8q
  obtain ⟨_, _, ⟨T9, L9, k9, n9⟩, -, X9, ⟨Lc9, hQ9, l9, y9, z9⟩, st9⟩ := Jvm.LawKit.callS X8 hx (y := (⟨"com/example/epochcast/epochcast/server/SessionLeasesHeartbeatPinLaw", "ref", "(JJJJJ)J"⟩ : MethodName)) hown (mvT hZ (hw _ (List.mem_of_getElem? (i := 180) rfl))) (mvT hZ (hw _ (List.mem_of_getElem? (i := 181) rfl))) (mvT hZ (hw _ (List.mem_of_getElem? (i := 182) rfl))) (mvT hZ (hw _ (List.mem_of_getElem? (i := 183) rfl))) (by decide) (backOf (W := 2) (rm21_rf l Z a0 hw [] vn vb ca tk lp T7.heap n0 (Nat.le_trans Z0 K7.1)) hZ (hw _ (List.mem_of_getElem? (i := 183) rfl)) (hw _ (List.mem_of_getElem? (i := 182) rfl)) (by decide) (by decide)) (g := (mkF m 157 #[.val (.int p1), .val (.long q2), .second, .val (.long q3), .second, .val (.long q4), .second, .val (.long q5), .second, .val (.int vt), .val (.long tk), .second, .val (.long lp), .second, .val (.long va), .second, .val (.long vb), .second, .val (.long vn), .second, .val (.ref b1), .val (.long ca), .second, .val (.long ca), .second, .val (.long vb), .second, .val (.long vmm), .second] [(.long lp), (.long tk), (.long ca), (.long vb), (.long vn), (.long (own_ref vn vb ca tk lp))])) rfl (by rw [hml]; rfl) (argsL := [(.long vn), (.long vb), (.long ca), (.long tk), (.long lp)]) (rest := [(.long (own_ref vn vb ca tk lp))]) (lenOf pd__JJJJJ_J rfl) rfl (by show 2 * 0 + _ ≤ _; exact Nat.le_of_eq rfl) (hb hby at_157) (fun _ _ => ⟨rfl, e8, (by decide : 6 + 0 ≤ _), (by decide : 36 + 0 ≤ _)⟩)
  dsimp only [Pt.U, Pt.locs, Pt.cells, Pt.slots] at X9 l9 y9 z9 st9 hQ9
  subst l9 y9 z9
  obtain ⟨rfl, N9q, e9⟩ := hQ9
  have N9 := Fr.app N8 N9q
  obtain ⟨cq10, kq10, q10a, q10b, q10c⟩ := isOf hZ e9 fq7_2
  obtain ⟨_, _, ⟨T10, L10, k10, n10⟩, -, X10, ⟨Lc10, hQ10, l10, y10, z10⟩, st10⟩ := X9.virtualBack hx (y := (⟨"com/example/epochcast/epochcast/server/SessionLeases", "nextCheck", "(J)J"⟩ : MethodName)) (z := (⟨"com/example/epochcast/epochcast/server/SessionLeases", "nextCheck", "(J)J"⟩ : MethodName)) hown (mvT hZ (hw _ (List.mem_of_getElem? (i := 175) rfl))) (mvT hZ (hw _ (List.mem_of_getElem? (i := 176) rfl))) (notFace_of_selects (args := #[]) (mvT hZ (hw _ (List.mem_of_getElem? (i := 178) rfl)))) (mvT hZ (hw _ (List.mem_of_getElem? (i := 178) rfl))) (mvT hZ (hw _ (List.mem_of_getElem? (i := 177) rfl))) (by decide) (backOf (W := 0) (rm20_nx l Z a0 hw [] b1 bm tk vb lp ca b2c2 b2c3 kc2kd4 T7.heap n0 (Nat.le_trans Z0 K7.1) fq7_3 fq7_0 fq7_1 fq7_6 ((fq5_6.keep Kq6 (ninS (Ne.symm (Nat.ne_of_lt (Nat.lt_of_lt_of_le (A1).lt s_b2c2))) nin0)).keep Kq7 (ninS (Ne.symm (Nat.ne_of_lt (Nat.lt_of_lt_of_le (A1).lt s_b2c2))) nin0)) (((((fq2_16.ext E3).keep Kq4 (ninS (Nat.ne_of_lt (Nat.lt_of_lt_of_le (fq2_16).lt s_b3)) nin0)).keep Kq5 (ninS (Ne.symm nq_b2c1_b2c3) (ninS (Ne.symm nq_b2c2_b2c3) (ninS (Ne.symm (Nat.ne_of_lt (Nat.lt_of_lt_of_le (A1).lt s_b2c3))) nin0)))).keep Kq6 (ninS (Ne.symm (Nat.ne_of_lt (Nat.lt_of_lt_of_le (A1).lt s_b2c3))) nin0)).keep Kq7 (ninS (Ne.symm (Nat.ne_of_lt (Nat.lt_of_lt_of_le (A1).lt s_b2c3))) nin0)) ((fq5_4.keep Kq6).keep Kq7) fq7_4) hZ (hw _ (List.mem_of_getElem? (i := 179) rfl)) (hw _ (List.mem_of_getElem? (i := 5) rfl)) (by decide) (by decide)) q10a q10c (g := (mkF m 170 #[.val (.int p1), .val (.long q2), .second, .val (.long q3), .second, .val (.long q4), .second, .val (.long q5), .second, .val (.int vt), .val (.long tk), .second, .val (.long lp), .second, .val (.long va), .second, .val (.long vb), .second, .val (.long vn), .second, .val (.ref b1), .val (.long ca), .second, .val (.long ca), .second, .val (.long vb), .second, .val (.long vmm), .second] [(.long bm), (.ref b1)])) rfl (by rw [hml]; rfl) (Steps.refl _) (argsL := [(.long bm)]) (rest := []) (lenOf pd__J_J rfl) rfl (by show 2 * 0 + _ ≤ _; exact Nat.le_of_eq rfl) (hb hby at_170) (fun _ _ => ⟨rfl, e9, (by decide : 6 + 0 ≤ _), (by decide : 36 + 0 ≤ _)⟩)
  dsimp only [Pt.U, Pt.locs, Pt.cells, Pt.slots] at X10 l10 y10 z10 st10 hQ10
  subst l10 y10 z10
  obtain ⟨rfl, N10q, e10⟩ := hQ10
  have N10 := Fr.app N9 N10q
  obtain ⟨_, _, ⟨T11, L11, k11, n11⟩, -, X11, ⟨Lc11, hQ11, l11, y11, z11⟩, st11⟩ := Jvm.LawKit.callS X10 hx (y := (⟨"com/example/epochcast/epochcast/server/SessionLeasesHeartbeatPinLaw", "ref", "(JJJJJ)J"⟩ : MethodName)) hown (mvT hZ (hw _ (List.mem_of_getElem? (i := 180) rfl))) (mvT hZ (hw _ (List.mem_of_getElem? (i := 181) rfl))) (mvT hZ (hw _ (List.mem_of_getElem? (i := 182) rfl))) (mvT hZ (hw _ (List.mem_of_getElem? (i := 183) rfl))) (by decide) (backOf (W := 2) (rm21_rf l Z a0 hw [] bm vb ca tk lp T7.heap n0 (Nat.le_trans Z0 K7.1)) hZ (hw _ (List.mem_of_getElem? (i := 183) rfl)) (hw _ (List.mem_of_getElem? (i := 182) rfl)) (by decide) (by decide)) (g := (mkF m 185 #[.val (.int p1), .val (.long q2), .second, .val (.long q3), .second, .val (.long q4), .second, .val (.long q5), .second, .val (.int vt), .val (.long tk), .second, .val (.long lp), .second, .val (.long va), .second, .val (.long vb), .second, .val (.long vn), .second, .val (.ref b1), .val (.long ca), .second, .val (.long ca), .second, .val (.long vb), .second, .val (.long vmm), .second] [(.long lp), (.long tk), (.long ca), (.long vb), (.long bm), (.long (own_ref bm vb ca tk lp))])) rfl (by rw [hml]; rfl) (argsL := [(.long bm), (.long vb), (.long ca), (.long tk), (.long lp)]) (rest := [(.long (own_ref bm vb ca tk lp))]) (lenOf pd__JJJJJ_J rfl) rfl (by show 2 * 0 + _ ≤ _; exact Nat.le_of_eq rfl) (hb hby at_185) (fun _ _ => ⟨rfl, e10, (by decide : 6 + 0 ≤ _), (by decide : 36 + 0 ≤ _)⟩)
  dsimp only [Pt.U, Pt.locs, Pt.cells, Pt.slots] at X11 l11 y11 z11 st11 hQ11
  subst l11 y11 z11
  obtain ⟨rfl, N11q, e11⟩ := hQ11
  have N11 := Fr.app N10 N11q
  obtain ⟨cq12, kq12, q12a, q12b, q12c⟩ := isOf hZ e11 fq7_2
  obtain ⟨_, _, ⟨T12, L12, k12, n12⟩, -, X12, ⟨Lc12, hQ12, l12, y12, z12⟩, st12⟩ := X11.virtualBack hx (y := (⟨"com/example/epochcast/epochcast/server/SessionLeases", "nextCheck", "(J)J"⟩ : MethodName)) (z := (⟨"com/example/epochcast/epochcast/server/SessionLeases", "nextCheck", "(J)J"⟩ : MethodName)) hown (mvT hZ (hw _ (List.mem_of_getElem? (i := 175) rfl))) (mvT hZ (hw _ (List.mem_of_getElem? (i := 176) rfl))) (notFace_of_selects (args := #[]) (mvT hZ (hw _ (List.mem_of_getElem? (i := 178) rfl)))) (mvT hZ (hw _ (List.mem_of_getElem? (i := 178) rfl))) (mvT hZ (hw _ (List.mem_of_getElem? (i := 177) rfl))) (by decide) (backOf (W := 0) (rm20_nx l Z a0 hw [] b1 bl tk vb lp ca b2c2 b2c3 kc2kd4 T7.heap n0 (Nat.le_trans Z0 K7.1) fq7_3 fq7_0 fq7_1 fq7_6 ((fq5_6.keep Kq6 (ninS (Ne.symm (Nat.ne_of_lt (Nat.lt_of_lt_of_le (A1).lt s_b2c2))) nin0)).keep Kq7 (ninS (Ne.symm (Nat.ne_of_lt (Nat.lt_of_lt_of_le (A1).lt s_b2c2))) nin0)) (((((fq2_16.ext E3).keep Kq4 (ninS (Nat.ne_of_lt (Nat.lt_of_lt_of_le (fq2_16).lt s_b3)) nin0)).keep Kq5 (ninS (Ne.symm nq_b2c1_b2c3) (ninS (Ne.symm nq_b2c2_b2c3) (ninS (Ne.symm (Nat.ne_of_lt (Nat.lt_of_lt_of_le (A1).lt s_b2c3))) nin0)))).keep Kq6 (ninS (Ne.symm (Nat.ne_of_lt (Nat.lt_of_lt_of_le (A1).lt s_b2c3))) nin0)).keep Kq7 (ninS (Ne.symm (Nat.ne_of_lt (Nat.lt_of_lt_of_le (A1).lt s_b2c3))) nin0)) ((fq5_4.keep Kq6).keep Kq7) fq7_4) hZ (hw _ (List.mem_of_getElem? (i := 179) rfl)) (hw _ (List.mem_of_getElem? (i := 5) rfl)) (by decide) (by decide)) q12a q12c (g := (mkF m 199 #[.val (.int p1), .val (.long q2), .second, .val (.long q3), .second, .val (.long q4), .second, .val (.long q5), .second, .val (.int vt), .val (.long tk), .second, .val (.long lp), .second, .val (.long va), .second, .val (.long vb), .second, .val (.long vn), .second, .val (.ref b1), .val (.long ca), .second, .val (.long ca), .second, .val (.long vb), .second, .val (.long vmm), .second] [(.long bl), (.ref b1)])) rfl (by rw [hml]; rfl) (Steps.refl _) (argsL := [(.long bl)]) (rest := []) (lenOf pd__J_J rfl) rfl (by show 2 * 0 + _ ≤ _; exact Nat.le_of_eq rfl) (hb hby at_199) (fun _ _ => ⟨rfl, e11, (by decide : 6 + 0 ≤ _), (by decide : 36 + 0 ≤ _)⟩)
  dsimp only [Pt.U, Pt.locs, Pt.cells, Pt.slots] at X12 l12 y12 z12 st12 hQ12
  subst l12 y12 z12
  obtain ⟨rfl, N12q, e12⟩ := hQ12
  have N12 := Fr.app N11 N12q
  obtain ⟨_, _, ⟨T13, L13, k13, n13⟩, -, X13, ⟨Lc13, hQ13, l13, y13, z13⟩, st13⟩ := Jvm.LawKit.callS X12 hx (y := (⟨"com/example/epochcast/epochcast/server/SessionLeasesHeartbeatPinLaw", "ref", "(JJJJJ)J"⟩ : MethodName)) hown (mvT hZ (hw _ (List.mem_of_getElem? (i := 180) rfl))) (mvT hZ (hw _ (List.mem_of_getElem? (i := 181) rfl))) (mvT hZ (hw _ (List.mem_of_getElem? (i := 182) rfl))) (mvT hZ (hw _ (List.mem_of_getElem? (i := 183) rfl))) (by decide) (backOf (W := 2) (rm21_rf l Z a0 hw [] bl vb ca tk lp T7.heap n0 (Nat.le_trans Z0 K7.1)) hZ (hw _ (List.mem_of_getElem? (i := 183) rfl)) (hw _ (List.mem_of_getElem? (i := 182) rfl)) (by decide) (by decide)) (g := (mkF m 215 #[.val (.int p1), .val (.long q2), .second, .val (.long q3), .second, .val (.long q4), .second, .val (.long q5), .second, .val (.int vt), .val (.long tk), .second, .val (.long lp), .second, .val (.long va), .second, .val (.long vb), .second, .val (.long vn), .second, .val (.ref b1), .val (.long ca), .second, .val (.long ca), .second, .val (.long vb), .second, .val (.long vmm), .second] [(.long lp), (.long tk), (.long ca), (.long vb), (.long bl), (.long (own_ref bl vb ca tk lp))])) rfl (by rw [hml]; rfl) (argsL := [(.long bl), (.long vb), (.long ca), (.long tk), (.long lp)]) (rest := [(.long (own_ref bl vb ca tk lp))]) (lenOf pd__JJJJJ_J rfl) rfl (by show 2 * 0 + _ ≤ _; exact Nat.le_of_eq rfl) (hb hby at_215) (fun _ _ => ⟨rfl, e12, (by decide : 6 + 0 ≤ _), (by decide : 36 + 0 ≤ _)⟩)
  dsimp only [Pt.U, Pt.locs, Pt.cells, Pt.slots] at X13 l13 y13 z13 st13 hQ13
  subst l13 y13 z13
  obtain ⟨rfl, N13q, e13⟩ := hQ13
  have N13 := Fr.app N12 N13q
  obtain ⟨cq14, kq14, q14a, q14b, q14c⟩ := isOf hZ e13 fq7_2
  obtain ⟨_, _, ⟨T14, L14, k14, n14⟩, -, X14, ⟨Lc14, hQ14, l14, y14, z14⟩, st14⟩ := X13.virtualBack hx (y := (⟨"com/example/epochcast/epochcast/server/SessionLeases", "nextCheck", "(J)J"⟩ : MethodName)) (z := (⟨"com/example/epochcast/epochcast/server/SessionLeases", "nextCheck", "(J)J"⟩ : MethodName)) hown (mvT hZ (hw _ (List.mem_of_getElem? (i := 175) rfl))) (mvT hZ (hw _ (List.mem_of_getElem? (i := 176) rfl))) (notFace_of_selects (args := #[]) (mvT hZ (hw _ (List.mem_of_getElem? (i := 178) rfl)))) (mvT hZ (hw _ (List.mem_of_getElem? (i := 178) rfl))) (mvT hZ (hw _ (List.mem_of_getElem? (i := 177) rfl))) (by decide) (backOf (W := 0) (rm20_nx l Z a0 hw [] b1 bl1 tk vb lp ca b2c2 b2c3 kc2kd4 T7.heap n0 (Nat.le_trans Z0 K7.1) fq7_3 fq7_0 fq7_1 fq7_6 ((fq5_6.keep Kq6 (ninS (Ne.symm (Nat.ne_of_lt (Nat.lt_of_lt_of_le (A1).lt s_b2c2))) nin0)).keep Kq7 (ninS (Ne.symm (Nat.ne_of_lt (Nat.lt_of_lt_of_le (A1).lt s_b2c2))) nin0)) (((((fq2_16.ext E3).keep Kq4 (ninS (Nat.ne_of_lt (Nat.lt_of_lt_of_le (fq2_16).lt s_b3)) nin0)).keep Kq5 (ninS (Ne.symm nq_b2c1_b2c3) (ninS (Ne.symm nq_b2c2_b2c3) (ninS (Ne.symm (Nat.ne_of_lt (Nat.lt_of_lt_of_le (A1).lt s_b2c3))) nin0)))).keep Kq6 (ninS (Ne.symm (Nat.ne_of_lt (Nat.lt_of_lt_of_le (A1).lt s_b2c3))) nin0)).keep Kq7 (ninS (Ne.symm (Nat.ne_of_lt (Nat.lt_of_lt_of_le (A1).lt s_b2c3))) nin0)) ((fq5_4.keep Kq6).keep Kq7) fq7_4) hZ (hw _ (List.mem_of_getElem? (i := 179) rfl)) (hw _ (List.mem_of_getElem? (i := 5) rfl)) (by decide) (by decide)) q14a q14c (g := (mkF m 231 #[.val (.int p1), .val (.long q2), .second, .val (.long q3), .second, .val (.long q4), .second, .val (.long q5), .second, .val (.int vt), .val (.long tk), .second, .val (.long lp), .second, .val (.long va), .second, .val (.long vb), .second, .val (.long vn), .second, .val (.ref b1), .val (.long ca), .second, .val (.long ca), .second, .val (.long vb), .second, .val (.long vmm), .second] [(.long bl1), (.ref b1)])) rfl (by rw [hml]; rfl) (Steps.refl _) (argsL := [(.long bl1)]) (rest := []) (lenOf pd__J_J rfl) rfl (by show 2 * 0 + _ ≤ _; exact Nat.le_of_eq rfl) (hb hby at_231) (fun _ _ => ⟨rfl, e13, (by decide : 6 + 0 ≤ _), (by decide : 36 + 0 ≤ _)⟩)
  dsimp only [Pt.U, Pt.locs, Pt.cells, Pt.slots] at X14 l14 y14 z14 st14 hQ14
  subst l14 y14 z14
  obtain ⟨rfl, N14q, e14⟩ := hQ14
  have N14 := Fr.app N13 N14q
  obtain ⟨_, _, ⟨T15, L15, k15, n15⟩, -, X15, ⟨Lc15, hQ15, l15, y15, z15⟩, st15⟩ := Jvm.LawKit.callS X14 hx (y := (⟨"com/example/epochcast/epochcast/server/SessionLeasesHeartbeatPinLaw", "ref", "(JJJJJ)J"⟩ : MethodName)) hown (mvT hZ (hw _ (List.mem_of_getElem? (i := 180) rfl))) (mvT hZ (hw _ (List.mem_of_getElem? (i := 181) rfl))) (mvT hZ (hw _ (List.mem_of_getElem? (i := 182) rfl))) (mvT hZ (hw _ (List.mem_of_getElem? (i := 183) rfl))) (by decide) (backOf (W := 2) (rm21_rf l Z a0 hw [] bl1 vb ca tk lp T7.heap n0 (Nat.le_trans Z0 K7.1)) hZ (hw _ (List.mem_of_getElem? (i := 183) rfl)) (hw _ (List.mem_of_getElem? (i := 182) rfl)) (by decide) (by decide)) (g := (mkF m 249 #[.val (.int p1), .val (.long q2), .second, .val (.long q3), .second, .val (.long q4), .second, .val (.long q5), .second, .val (.int vt), .val (.long tk), .second, .val (.long lp), .second, .val (.long va), .second, .val (.long vb), .second, .val (.long vn), .second, .val (.ref b1), .val (.long ca), .second, .val (.long ca), .second, .val (.long vb), .second, .val (.long vmm), .second] [(.long lp), (.long tk), (.long ca), (.long vb), (.long bl1), (.long (own_ref bl1 vb ca tk lp))])) rfl (by rw [hml]; rfl) (argsL := [(.long bl1), (.long vb), (.long ca), (.long tk), (.long lp)]) (rest := [(.long (own_ref bl1 vb ca tk lp))]) (lenOf pd__JJJJJ_J rfl) rfl (by show 2 * 0 + _ ≤ _; exact Nat.le_of_eq rfl) (hb hby at_249) (fun _ _ => ⟨rfl, e14, (by decide : 6 + 0 ≤ _), (by decide : 36 + 0 ≤ _)⟩)
  dsimp only [Pt.U, Pt.locs, Pt.cells, Pt.slots] at X15 l15 y15 z15 st15 hQ15
  subst l15 y15 z15
  obtain ⟨rfl, N15q, e15⟩ := hQ15
  have N15 := Fr.app N14 N15q
  obtain ⟨cq16, kq16, q16a, q16b, q16c⟩ := isOf hZ e15 fq7_2
  obtain ⟨_, _, ⟨T16, L16, k16, n16⟩, -, X16, ⟨Lc16, hQ16, l16, y16, z16⟩, st16⟩ := X15.virtualBack hx (y := (⟨"com/example/epochcast/epochcast/server/SessionLeases", "nextCheck", "(J)J"⟩ : MethodName)) (z := (⟨"com/example/epochcast/epochcast/server/SessionLeases", "nextCheck", "(J)J"⟩ : MethodName)) hown (mvT hZ (hw _ (List.mem_of_getElem? (i := 175) rfl))) (mvT hZ (hw _ (List.mem_of_getElem? (i := 176) rfl))) (notFace_of_selects (args := #[]) (mvT hZ (hw _ (List.mem_of_getElem? (i := 178) rfl)))) (mvT hZ (hw _ (List.mem_of_getElem? (i := 178) rfl))) (mvT hZ (hw _ (List.mem_of_getElem? (i := 177) rfl))) (by decide) (backOf (W := 0) (rm20_nx l Z a0 hw [] b1 vmm tk vb lp ca b2c2 b2c3 kc2kd4 T7.heap n0 (Nat.le_trans Z0 K7.1) fq7_3 fq7_0 fq7_1 fq7_6 ((fq5_6.keep Kq6 (ninS (Ne.symm (Nat.ne_of_lt (Nat.lt_of_lt_of_le (A1).lt s_b2c2))) nin0)).keep Kq7 (ninS (Ne.symm (Nat.ne_of_lt (Nat.lt_of_lt_of_le (A1).lt s_b2c2))) nin0)) (((((fq2_16.ext E3).keep Kq4 (ninS (Nat.ne_of_lt (Nat.lt_of_lt_of_le (fq2_16).lt s_b3)) nin0)).keep Kq5 (ninS (Ne.symm nq_b2c1_b2c3) (ninS (Ne.symm nq_b2c2_b2c3) (ninS (Ne.symm (Nat.ne_of_lt (Nat.lt_of_lt_of_le (A1).lt s_b2c3))) nin0)))).keep Kq6 (ninS (Ne.symm (Nat.ne_of_lt (Nat.lt_of_lt_of_le (A1).lt s_b2c3))) nin0)).keep Kq7 (ninS (Ne.symm (Nat.ne_of_lt (Nat.lt_of_lt_of_le (A1).lt s_b2c3))) nin0)) ((fq5_4.keep Kq6).keep Kq7) fq7_4) hZ (hw _ (List.mem_of_getElem? (i := 179) rfl)) (hw _ (List.mem_of_getElem? (i := 5) rfl)) (by decide) (by decide)) q16a q16c (g := (mkF m 260 #[.val (.int p1), .val (.long q2), .second, .val (.long q3), .second, .val (.long q4), .second, .val (.long q5), .second, .val (.int vt), .val (.long tk), .second, .val (.long lp), .second, .val (.long va), .second, .val (.long vb), .second, .val (.long vn), .second, .val (.ref b1), .val (.long ca), .second, .val (.long ca), .second, .val (.long vb), .second, .val (.long vmm), .second] [(.long vmm), (.ref b1)])) rfl (by rw [hml]; rfl) (Steps.refl _) (argsL := [(.long vmm)]) (rest := []) (lenOf pd__J_J rfl) rfl (by show 2 * 0 + _ ≤ _; exact Nat.le_of_eq rfl) (hb hby at_260) (fun _ _ => ⟨rfl, e15, (by decide : 6 + 0 ≤ _), (by decide : 36 + 0 ≤ _)⟩)
  dsimp only [Pt.U, Pt.locs, Pt.cells, Pt.slots] at X16 l16 y16 z16 st16 hQ16
  subst l16 y16 z16
  obtain ⟨rfl, N16q, e16⟩ := hQ16
  have N16 := Fr.app N15 N16q
  obtain ⟨_, _, ⟨T17, L17, k17, n17⟩, -, X17, ⟨Lc17, hQ17, l17, y17, z17⟩, st17⟩ := Jvm.LawKit.callS X16 hx (y := (⟨"com/example/epochcast/epochcast/server/SessionLeasesHeartbeatPinLaw", "ref", "(JJJJJ)J"⟩ : MethodName)) hown (mvT hZ (hw _ (List.mem_of_getElem? (i := 180) rfl))) (mvT hZ (hw _ (List.mem_of_getElem? (i := 181) rfl))) (mvT hZ (hw _ (List.mem_of_getElem? (i := 182) rfl))) (mvT hZ (hw _ (List.mem_of_getElem? (i := 183) rfl))) (by decide) (backOf (W := 2) (rm21_rf l Z a0 hw [] vmm vb ca tk lp T7.heap n0 (Nat.le_trans Z0 K7.1)) hZ (hw _ (List.mem_of_getElem? (i := 183) rfl)) (hw _ (List.mem_of_getElem? (i := 182) rfl)) (by decide) (by decide)) (g := (mkF m 273 #[.val (.int p1), .val (.long q2), .second, .val (.long q3), .second, .val (.long q4), .second, .val (.long q5), .second, .val (.int vt), .val (.long tk), .second, .val (.long lp), .second, .val (.long va), .second, .val (.long vb), .second, .val (.long vn), .second, .val (.ref b1), .val (.long ca), .second, .val (.long ca), .second, .val (.long vb), .second, .val (.long vmm), .second] [(.long lp), (.long tk), (.long ca), (.long vb), (.long vmm), (.long (own_ref vmm vb ca tk lp))])) rfl (by rw [hml]; rfl) (argsL := [(.long vmm), (.long vb), (.long ca), (.long tk), (.long lp)]) (rest := [(.long (own_ref vmm vb ca tk lp))]) (lenOf pd__JJJJJ_J rfl) rfl (by show 2 * 0 + _ ≤ _; exact Nat.le_of_eq rfl) (hb hby at_273) (fun _ _ => ⟨rfl, e16, (by decide : 6 + 0 ≤ _), (by decide : 36 + 0 ≤ _)⟩)
  dsimp only [Pt.U, Pt.locs, Pt.cells, Pt.slots] at X17 l17 y17 z17 st17 hQ17
  subst l17 y17 z17
  obtain ⟨rfl, N17q, e17⟩ := hQ17
  have N17 := Fr.app N16 N17q
  obtain ⟨fs, hr, hrun, hended, hW, hsame⟩ := X17.leave (v := some (.int 1)) (fun h => by rw [Bd.returns] at h; cases h)
  refine ⟨_, _, pre0 _ ?_, hrun, hended, _, _, rfl, ?_, ⟨_, rfl⟩, hW, hsame.mono (by decide) (by decide)⟩
  · show Steps p.tables e below (s₁.setTop (mkF m 0 #[.val (.int p1), .val (.long q2), .second, .val (.long q3), .second, .val (.long q4), .second, .val (.long q5), .second, .unset, .unset, .unset, .unset, .unset, .unset, .unset, .unset, .unset, .unset, .unset, .unset, .unset, .unset, .unset, .unset, .unset, .unset, .unset, .unset] [])) _
    refine XS.iloadN X0.here hx rfl (hb hby at_0) rfl ?_
    show Steps p.tables e below (s₁.setTop (mkF m 1 #[.val (.int p1), .val (.long q2), .second, .val (.long q3), .second, .val (.long q4), .second, .val (.long q5), .second, .unset, .unset, .unset, .unset, .unset, .unset, .unset, .unset, .unset, .unset, .unset, .unset, .unset, .unset, .unset, .unset, .unset, .unset, .unset, .unset] [(.int p1)])) _
    refine X0.ldcInt hx hown (mvT hZ (hw _ (List.mem_of_getElem? (i := 0) rfl))) (g := (mkF m 1 #[.val (.int p1), .val (.long q2), .second, .val (.long q3), .second, .val (.long q4), .second, .val (.long q5), .second, .unset, .unset, .unset, .unset, .unset, .unset, .unset, .unset, .unset, .unset, .unset, .unset, .unset, .unset, .unset, .unset, .unset, .unset, .unset, .unset] [(.int p1)])) rfl (hb hby at_1) _ ?_
    show Steps p.tables e below (s₁.setTop (mkF m 3 #[.val (.int p1), .val (.long q2), .second, .val (.long q3), .second, .val (.long q4), .second, .val (.long q5), .second, .unset, .unset, .unset, .unset, .unset, .unset, .unset, .unset, .unset, .unset, .unset, .unset, .unset, .unset, .unset, .unset, .unset, .unset, .unset, .unset] [(.int 2147483647), (.int p1)])) _
    refine XS.iand X0.here hx rfl (hb hby at_3) rfl ?_
    show Steps p.tables e below (s₁.setTop (mkF m 4 #[.val (.int p1), .val (.long q2), .second, .val (.long q3), .second, .val (.long q4), .second, .val (.long q5), .second, .unset, .unset, .unset, .unset, .unset, .unset, .unset, .unset, .unset, .unset, .unset, .unset, .unset, .unset, .unset, .unset, .unset, .unset, .unset, .unset] [(.int (p1 &&& (2147483647 : Int32)))])) _
    rw [ht]
    show Steps p.tables e below (s₁.setTop (mkF m 4 #[.val (.int p1), .val (.long q2), .second, .val (.long q3), .second, .val (.long q4), .second, .val (.long q5), .second, .unset, .unset, .unset, .unset, .unset, .unset, .unset, .unset, .unset, .unset, .unset, .unset, .unset, .unset, .unset, .unset, .unset, .unset, .unset, .unset] [(.int vt)])) _
    refine XS.istore X0.here hx rfl (hb hby at_4) rfl (l' := #[.val (.int p1), .val (.long q2), .second, .val (.long q3), .second, .val (.long q4), .second, .val (.long q5), .second, .val (.int vt), .unset, .unset, .unset, .unset, .unset, .unset, .unset, .unset, .unset, .unset, .unset, .unset, .unset, .unset, .unset, .unset, .unset, .unset, .unset]) rfl ?_
    show Steps p.tables e below (s₁.setTop (mkF m 6 #[.val (.int p1), .val (.long q2), .second, .val (.long q3), .second, .val (.long q4), .second, .val (.long q5), .second, .val (.int vt), .unset, .unset, .unset, .unset, .unset, .unset, .unset, .unset, .unset, .unset, .unset, .unset, .unset, .unset, .unset, .unset, .unset, .unset, .unset] [])) _
    refine XS.iload X0.here hx rfl (hb hby at_6) rfl ?_
    show Steps p.tables e below (s₁.setTop (mkF m 8 #[.val (.int p1), .val (.long q2), .second, .val (.long q3), .second, .val (.long q4), .second, .val (.long q5), .second, .val (.int vt), .unset, .unset, .unset, .unset, .unset, .unset, .unset, .unset, .unset, .unset, .unset, .unset, .unset, .unset, .unset, .unset, .unset, .unset, .unset] [(.int vt)])) _
    refine XS.i2l X0.here hx rfl (hb hby at_8) rfl ?_
    show Steps p.tables e below (s₁.setTop (mkF m 9 #[.val (.int p1), .val (.long q2), .second, .val (.long q3), .second, .val (.long q4), .second, .val (.long q5), .second, .val (.int vt), .unset, .unset, .unset, .unset, .unset, .unset, .unset, .unset, .unset, .unset, .unset, .unset, .unset, .unset, .unset, .unset, .unset, .unset, .unset] [(.long (vt.toInt64))])) _
    refine X0.ldc2Long hx hown (mvT hZ (hw _ (List.mem_of_getElem? (i := 1) rfl))) (g := (mkF m 9 #[.val (.int p1), .val (.long q2), .second, .val (.long q3), .second, .val (.long q4), .second, .val (.long q5), .second, .val (.int vt), .unset, .unset, .unset, .unset, .unset, .unset, .unset, .unset, .unset, .unset, .unset, .unset, .unset, .unset, .unset, .unset, .unset, .unset, .unset] [(.long (vt.toInt64))])) rfl (hb hby at_9) _ ?_
    show Steps p.tables e below (s₁.setTop (mkF m 12 #[.val (.int p1), .val (.long q2), .second, .val (.long q3), .second, .val (.long q4), .second, .val (.long q5), .second, .val (.int vt), .unset, .unset, .unset, .unset, .unset, .unset, .unset, .unset, .unset, .unset, .unset, .unset, .unset, .unset, .unset, .unset, .unset, .unset, .unset] [(.long 1000000), (.long (vt.toInt64))])) _
    refine XS.lmul X0.here hx rfl (hb hby at_12) rfl ?_
    show Steps p.tables e below (s₁.setTop (mkF m 13 #[.val (.int p1), .val (.long q2), .second, .val (.long q3), .second, .val (.long q4), .second, .val (.long q5), .second, .val (.int vt), .unset, .unset, .unset, .unset, .unset, .unset, .unset, .unset, .unset, .unset, .unset, .unset, .unset, .unset, .unset, .unset, .unset, .unset, .unset] [(.long ((vt.toInt64) * (1000000 : Int64)))])) _
    rw [htk]
    show Steps p.tables e below (s₁.setTop (mkF m 13 #[.val (.int p1), .val (.long q2), .second, .val (.long q3), .second, .val (.long q4), .second, .val (.long q5), .second, .val (.int vt), .unset, .unset, .unset, .unset, .unset, .unset, .unset, .unset, .unset, .unset, .unset, .unset, .unset, .unset, .unset, .unset, .unset, .unset, .unset] [(.long tk)])) _
    refine XS.lstore X0.here hx rfl (hb hby at_13) rfl (l' := #[.val (.int p1), .val (.long q2), .second, .val (.long q3), .second, .val (.long q4), .second, .val (.long q5), .second, .val (.int vt), .val (.long tk), .second, .unset, .unset, .unset, .unset, .unset, .unset, .unset, .unset, .unset, .unset, .unset, .unset, .unset, .unset, .unset, .unset, .unset]) rfl ?_
    show Steps p.tables e below (s₁.setTop (mkF m 15 #[.val (.int p1), .val (.long q2), .second, .val (.long q3), .second, .val (.long q4), .second, .val (.long q5), .second, .val (.int vt), .val (.long tk), .second, .unset, .unset, .unset, .unset, .unset, .unset, .unset, .unset, .unset, .unset, .unset, .unset, .unset, .unset, .unset, .unset, .unset] [])) _
    refine XS.lload X0.here hx rfl (hb hby at_15) rfl ?_
    show Steps p.tables e below (s₁.setTop (mkF m 17 #[.val (.int p1), .val (.long q2), .second, .val (.long q3), .second, .val (.long q4), .second, .val (.long q5), .second, .val (.int vt), .val (.long tk), .second, .unset, .unset, .unset, .unset, .unset, .unset, .unset, .unset, .unset, .unset, .unset, .unset, .unset, .unset, .unset, .unset, .unset] [(.long tk)])) _
    refine XS.lload X0.here hx rfl (hb hby at_17) rfl ?_
    show Steps p.tables e below (s₁.setTop (mkF m 19 #[.val (.int p1), .val (.long q2), .second, .val (.long q3), .second, .val (.long q4), .second, .val (.long q5), .second, .val (.int vt), .val (.long tk), .second, .unset, .unset, .unset, .unset, .unset, .unset, .unset, .unset, .unset, .unset, .unset, .unset, .unset, .unset, .unset, .unset, .unset] [(.long tk), (.long tk)])) _
    refine X0.ldc2Long hx hown (mvT hZ (hw _ (List.mem_of_getElem? (i := 2) rfl))) (g := (mkF m 19 #[.val (.int p1), .val (.long q2), .second, .val (.long q3), .second, .val (.long q4), .second, .val (.long q5), .second, .val (.int vt), .val (.long tk), .second, .unset, .unset, .unset, .unset, .unset, .unset, .unset, .unset, .unset, .unset, .unset, .unset, .unset, .unset, .unset, .unset, .unset] [(.long tk), (.long tk)])) rfl (hb hby at_19) _ ?_
    show Steps p.tables e below (s₁.setTop (mkF m 22 #[.val (.int p1), .val (.long q2), .second, .val (.long q3), .second, .val (.long q4), .second, .val (.long q5), .second, .val (.int vt), .val (.long tk), .second, .unset, .unset, .unset, .unset, .unset, .unset, .unset, .unset, .unset, .unset, .unset, .unset, .unset, .unset, .unset, .unset, .unset] [(.long 4), (.long tk), (.long tk)])) _
    refine XS.ldiv X0.here hx rfl (hb hby at_22) rfl (by decide) ?_
    show Steps p.tables e below (s₁.setTop (mkF m 23 #[.val (.int p1), .val (.long q2), .second, .val (.long q3), .second, .val (.long q4), .second, .val (.long q5), .second, .val (.int vt), .val (.long tk), .second, .unset, .unset, .unset, .unset, .unset, .unset, .unset, .unset, .unset, .unset, .unset, .unset, .unset, .unset, .unset, .unset, .unset] [(.long (tk / (4 : Int64))), (.long tk)])) _
    refine XS.ladd X0.here hx rfl (hb hby at_23) rfl ?_
    show Steps p.tables e below (s₁.setTop (mkF m 24 #[.val (.int p1), .val (.long q2), .second, .val (.long q3), .second, .val (.long q4), .second, .val (.long q5), .second, .val (.int vt), .val (.long tk), .second, .unset, .unset, .unset, .unset, .unset, .unset, .unset, .unset, .unset, .unset, .unset, .unset, .unset, .unset, .unset, .unset, .unset] [(.long (tk + (tk / (4 : Int64))))])) _
    rw [hlp]
    show Steps p.tables e below (s₁.setTop (mkF m 24 #[.val (.int p1), .val (.long q2), .second, .val (.long q3), .second, .val (.long q4), .second, .val (.long q5), .second, .val (.int vt), .val (.long tk), .second, .unset, .unset, .unset, .unset, .unset, .unset, .unset, .unset, .unset, .unset, .unset, .unset, .unset, .unset, .unset, .unset, .unset] [(.long lp)])) _
    refine XS.lstore X0.here hx rfl (hb hby at_24) rfl (l' := #[.val (.int p1), .val (.long q2), .second, .val (.long q3), .second, .val (.long q4), .second, .val (.long q5), .second, .val (.int vt), .val (.long tk), .second, .val (.long lp), .second, .unset, .unset, .unset, .unset, .unset, .unset, .unset, .unset, .unset, .unset, .unset, .unset, .unset, .unset, .unset]) rfl ?_
    show Steps p.tables e below (s₁.setTop (mkF m 26 #[.val (.int p1), .val (.long q2), .second, .val (.long q3), .second, .val (.long q4), .second, .val (.long q5), .second, .val (.int vt), .val (.long tk), .second, .val (.long lp), .second, .unset, .unset, .unset, .unset, .unset, .unset, .unset, .unset, .unset, .unset, .unset, .unset, .unset, .unset, .unset] [])) _
    refine XS.lloadN X0.here hx rfl (hb hby at_26) rfl ?_
    show Steps p.tables e below (s₁.setTop (mkF m 27 #[.val (.int p1), .val (.long q2), .second, .val (.long q3), .second, .val (.long q4), .second, .val (.long q5), .second, .val (.int vt), .val (.long tk), .second, .val (.long lp), .second, .unset, .unset, .unset, .unset, .unset, .unset, .unset, .unset, .unset, .unset, .unset, .unset, .unset, .unset, .unset] [(.long q2)])) _
    refine XS.lloadN X0.here hx rfl (hb hby at_27) rfl ?_
    show Steps p.tables e below (s₁.setTop (mkF m 28 #[.val (.int p1), .val (.long q2), .second, .val (.long q3), .second, .val (.long q4), .second, .val (.long q5), .second, .val (.int vt), .val (.long tk), .second, .val (.long lp), .second, .unset, .unset, .unset, .unset, .unset, .unset, .unset, .unset, .unset, .unset, .unset, .unset, .unset, .unset, .unset] [(.long q3), (.long q2)])) _
    refine XS.ladd X0.here hx rfl (hb hby at_28) rfl ?_
    show Steps p.tables e below (s₁.setTop (mkF m 29 #[.val (.int p1), .val (.long q2), .second, .val (.long q3), .second, .val (.long q4), .second, .val (.long q5), .second, .val (.int vt), .val (.long tk), .second, .val (.long lp), .second, .unset, .unset, .unset, .unset, .unset, .unset, .unset, .unset, .unset, .unset, .unset, .unset, .unset, .unset, .unset] [(.long (q2 + q3))])) _
    rw [hva]
    show Steps p.tables e below (s₁.setTop (mkF m 29 #[.val (.int p1), .val (.long q2), .second, .val (.long q3), .second, .val (.long q4), .second, .val (.long q5), .second, .val (.int vt), .val (.long tk), .second, .val (.long lp), .second, .unset, .unset, .unset, .unset, .unset, .unset, .unset, .unset, .unset, .unset, .unset, .unset, .unset, .unset, .unset] [(.long va)])) _
    refine XS.lstore X0.here hx rfl (hb hby at_29) rfl (l' := #[.val (.int p1), .val (.long q2), .second, .val (.long q3), .second, .val (.long q4), .second, .val (.long q5), .second, .val (.int vt), .val (.long tk), .second, .val (.long lp), .second, .val (.long va), .second, .unset, .unset, .unset, .unset, .unset, .unset, .unset, .unset, .unset, .unset, .unset, .unset, .unset]) rfl ?_
    show Steps p.tables e below (s₁.setTop (mkF m 31 #[.val (.int p1), .val (.long q2), .second, .val (.long q3), .second, .val (.long q4), .second, .val (.long q5), .second, .val (.int vt), .val (.long tk), .second, .val (.long lp), .second, .val (.long va), .second, .unset, .unset, .unset, .unset, .unset, .unset, .unset, .unset, .unset, .unset, .unset, .unset, .unset] [])) _
    refine XS.lload X0.here hx rfl (hb hby at_31) rfl ?_
    show Steps p.tables e below (s₁.setTop (mkF m 33 #[.val (.int p1), .val (.long q2), .second, .val (.long q3), .second, .val (.long q4), .second, .val (.long q5), .second, .val (.int vt), .val (.long tk), .second, .val (.long lp), .second, .val (.long va), .second, .unset, .unset, .unset, .unset, .unset, .unset, .unset, .unset, .unset, .unset, .unset, .unset, .unset] [(.long va)])) _
    refine XS.lload X0.here hx rfl (hb hby at_33) rfl ?_
    show Steps p.tables e below (s₁.setTop (mkF m 35 #[.val (.int p1), .val (.long q2), .second, .val (.long q3), .second, .val (.long q4), .second, .val (.long q5), .second, .val (.int vt), .val (.long tk), .second, .val (.long lp), .second, .val (.long va), .second, .unset, .unset, .unset, .unset, .unset, .unset, .unset, .unset, .unset, .unset, .unset, .unset, .unset] [(.long q4), (.long va)])) _
    refine XS.ladd X0.here hx rfl (hb hby at_35) rfl ?_
    show Steps p.tables e below (s₁.setTop (mkF m 36 #[.val (.int p1), .val (.long q2), .second, .val (.long q3), .second, .val (.long q4), .second, .val (.long q5), .second, .val (.int vt), .val (.long tk), .second, .val (.long lp), .second, .val (.long va), .second, .unset, .unset, .unset, .unset, .unset, .unset, .unset, .unset, .unset, .unset, .unset, .unset, .unset] [(.long (va + q4))])) _
    rw [hvb]
    show Steps p.tables e below (s₁.setTop (mkF m 36 #[.val (.int p1), .val (.long q2), .second, .val (.long q3), .second, .val (.long q4), .second, .val (.long q5), .second, .val (.int vt), .val (.long tk), .second, .val (.long lp), .second, .val (.long va), .second, .unset, .unset, .unset, .unset, .unset, .unset, .unset, .unset, .unset, .unset, .unset, .unset, .unset] [(.long vb)])) _
    refine XS.lstore X0.here hx rfl (hb hby at_36) rfl (l' := #[.val (.int p1), .val (.long q2), .second, .val (.long q3), .second, .val (.long q4), .second, .val (.long q5), .second, .val (.int vt), .val (.long tk), .second, .val (.long lp), .second, .val (.long va), .second, .val (.long vb), .second, .unset, .unset, .unset, .unset, .unset, .unset, .unset, .unset, .unset, .unset, .unset]) rfl ?_
    show Steps p.tables e below (s₁.setTop (mkF m 38 #[.val (.int p1), .val (.long q2), .second, .val (.long q3), .second, .val (.long q4), .second, .val (.long q5), .second, .val (.int vt), .val (.long tk), .second, .val (.long lp), .second, .val (.long va), .second, .val (.long vb), .second, .unset, .unset, .unset, .unset, .unset, .unset, .unset, .unset, .unset, .unset, .unset] [])) _
    refine XS.lload X0.here hx rfl (hb hby at_38) rfl ?_
    show Steps p.tables e below (s₁.setTop (mkF m 40 #[.val (.int p1), .val (.long q2), .second, .val (.long q3), .second, .val (.long q4), .second, .val (.long q5), .second, .val (.int vt), .val (.long tk), .second, .val (.long lp), .second, .val (.long va), .second, .val (.long vb), .second, .unset, .unset, .unset, .unset, .unset, .unset, .unset, .unset, .unset, .unset, .unset] [(.long vb)])) _
    refine XS.lload X0.here hx rfl (hb hby at_40) rfl ?_
    show Steps p.tables e below (s₁.setTop (mkF m 42 #[.val (.int p1), .val (.long q2), .second, .val (.long q3), .second, .val (.long q4), .second, .val (.long q5), .second, .val (.int vt), .val (.long tk), .second, .val (.long lp), .second, .val (.long va), .second, .val (.long vb), .second, .unset, .unset, .unset, .unset, .unset, .unset, .unset, .unset, .unset, .unset, .unset] [(.long q5), (.long vb)])) _
    refine XS.ladd X0.here hx rfl (hb hby at_42) rfl ?_
    show Steps p.tables e below (s₁.setTop (mkF m 43 #[.val (.int p1), .val (.long q2), .second, .val (.long q3), .second, .val (.long q4), .second, .val (.long q5), .second, .val (.int vt), .val (.long tk), .second, .val (.long lp), .second, .val (.long va), .second, .val (.long vb), .second, .unset, .unset, .unset, .unset, .unset, .unset, .unset, .unset, .unset, .unset, .unset] [(.long (vb + q5))])) _
    rw [hvn]
    show Steps p.tables e below (s₁.setTop (mkF m 43 #[.val (.int p1), .val (.long q2), .second, .val (.long q3), .second, .val (.long q4), .second, .val (.long q5), .second, .val (.int vt), .val (.long tk), .second, .val (.long lp), .second, .val (.long va), .second, .val (.long vb), .second, .unset, .unset, .unset, .unset, .unset, .unset, .unset, .unset, .unset, .unset, .unset] [(.long vn)])) _
    refine XS.lstore X0.here hx rfl (hb hby at_43) rfl (l' := #[.val (.int p1), .val (.long q2), .second, .val (.long q3), .second, .val (.long q4), .second, .val (.long q5), .second, .val (.int vt), .val (.long tk), .second, .val (.long lp), .second, .val (.long va), .second, .val (.long vb), .second, .val (.long vn), .second, .unset, .unset, .unset, .unset, .unset, .unset, .unset, .unset, .unset]) rfl ?_
    show Steps p.tables e below (s₁.setTop (mkF m 45 #[.val (.int p1), .val (.long q2), .second, .val (.long q3), .second, .val (.long q4), .second, .val (.long q5), .second, .val (.int vt), .val (.long tk), .second, .val (.long lp), .second, .val (.long va), .second, .val (.long vb), .second, .val (.long vn), .second, .unset, .unset, .unset, .unset, .unset, .unset, .unset, .unset, .unset] [])) _
    refine st1 _ ?_
    show Steps p.tables e below (T1.setTop (mkF m 48 #[.val (.int p1), .val (.long q2), .second, .val (.long q3), .second, .val (.long q4), .second, .val (.long q5), .second, .val (.int vt), .val (.long tk), .second, .val (.long lp), .second, .val (.long va), .second, .val (.long vb), .second, .val (.long vn), .second, .unset, .unset, .unset, .unset, .unset, .unset, .unset, .unset, .unset] [(.ref b1)])) _
    refine XS.dup X1.here hx rfl (hb hby at_48) rfl rfl ?_
    show Steps p.tables e below (T1.setTop (mkF m 49 #[.val (.int p1), .val (.long q2), .second, .val (.long q3), .second, .val (.long q4), .second, .val (.long q5), .second, .val (.int vt), .val (.long tk), .second, .val (.long lp), .second, .val (.long va), .second, .val (.long vb), .second, .val (.long vn), .second, .unset, .unset, .unset, .unset, .unset, .unset, .unset, .unset, .unset] [(.ref b1), (.ref b1)])) _
    refine XS.iload X1.here hx rfl (hb hby at_49) rfl ?_
    show Steps p.tables e below (T1.setTop (mkF m 51 #[.val (.int p1), .val (.long q2), .second, .val (.long q3), .second, .val (.long q4), .second, .val (.long q5), .second, .val (.int vt), .val (.long tk), .second, .val (.long lp), .second, .val (.long va), .second, .val (.long vb), .second, .val (.long vn), .second, .unset, .unset, .unset, .unset, .unset, .unset, .unset, .unset, .unset] [(.int vt), (.ref b1), (.ref b1)])) _
    refine st2.trans ?_
    show Steps p.tables e below (T2.setTop (mkF m 54 #[.val (.int p1), .val (.long q2), .second, .val (.long q3), .second, .val (.long q4), .second, .val (.long q5), .second, .val (.int vt), .val (.long tk), .second, .val (.long lp), .second, .val (.long va), .second, .val (.long vb), .second, .val (.long vn), .second, .unset, .unset, .unset, .unset, .unset, .unset, .unset, .unset, .unset] [(.ref b1)])) _
    refine XS.astore X2.here hx rfl (hb hby at_54) rfl rfl (l' := #[.val (.int p1), .val (.long q2), .second, .val (.long q3), .second, .val (.long q4), .second, .val (.long q5), .second, .val (.int vt), .val (.long tk), .second, .val (.long lp), .second, .val (.long va), .second, .val (.long vb), .second, .val (.long vn), .second, .val (.ref b1), .unset, .unset, .unset, .unset, .unset, .unset, .unset, .unset]) rfl ?_
    show Steps p.tables e below (T2.setTop (mkF m 56 #[.val (.int p1), .val (.long q2), .second, .val (.long q3), .second, .val (.long q4), .second, .val (.long q5), .second, .val (.int vt), .val (.long tk), .second, .val (.long lp), .second, .val (.long va), .second, .val (.long vb), .second, .val (.long vn), .second, .val (.ref b1), .unset, .unset, .unset, .unset, .unset, .unset, .unset, .unset] [])) _
    refine XS.aload X2.here hx rfl (hb hby at_56) rfl rfl ?_
    show Steps p.tables e below (T2.setTop (mkF m 58 #[.val (.int p1), .val (.long q2), .second, .val (.long q3), .second, .val (.long q4), .second, .val (.long q5), .second, .val (.int vt), .val (.long tk), .second, .val (.long lp), .second, .val (.long va), .second, .val (.long vb), .second, .val (.long vn), .second, .val (.ref b1), .unset, .unset, .unset, .unset, .unset, .unset, .unset, .unset] [(.ref b1)])) _
    refine st3 _ ?_
    show Steps p.tables e below (T3.setTop (mkF m 61 #[.val (.int p1), .val (.long q2), .second, .val (.long q3), .second, .val (.long q4), .second, .val (.long q5), .second, .val (.int vt), .val (.long tk), .second, .val (.long lp), .second, .val (.long va), .second, .val (.long vb), .second, .val (.long vn), .second, .val (.ref b1), .unset, .unset, .unset, .unset, .unset, .unset, .unset, .unset] [(.ref b3), (.ref b1)])) _
    refine XS.dup X3.here hx rfl (hb hby at_61) rfl rfl ?_
    show Steps p.tables e below (T3.setTop (mkF m 62 #[.val (.int p1), .val (.long q2), .second, .val (.long q3), .second, .val (.long q4), .second, .val (.long q5), .second, .val (.int vt), .val (.long tk), .second, .val (.long lp), .second, .val (.long va), .second, .val (.long vb), .second, .val (.long vn), .second, .val (.ref b1), .unset, .unset, .unset, .unset, .unset, .unset, .unset, .unset] [(.ref b3), (.ref b3), (.ref b1)])) _
    refine st4.trans ?_
    show Steps p.tables e below (T4.setTop (mkF m 65 #[.val (.int p1), .val (.long q2), .second, .val (.long q3), .second, .val (.long q4), .second, .val (.long q5), .second, .val (.int vt), .val (.long tk), .second, .val (.long lp), .second, .val (.long va), .second, .val (.long vb), .second, .val (.long vn), .second, .val (.ref b1), .unset, .unset, .unset, .unset, .unset, .unset, .unset, .unset] [(.ref b3), (.ref b1)])) _
    refine XS.lloadN X4.here hx rfl (hb hby at_65) rfl ?_
    show Steps p.tables e below (T4.setTop (mkF m 66 #[.val (.int p1), .val (.long q2), .second, .val (.long q3), .second, .val (.long q4), .second, .val (.long q5), .second, .val (.int vt), .val (.long tk), .second, .val (.long lp), .second, .val (.long va), .second, .val (.long vb), .second, .val (.long vn), .second, .val (.ref b1), .unset, .unset, .unset, .unset, .unset, .unset, .unset, .unset] [(.long q2), (.ref b3), (.ref b1)])) _
    refine st5.trans ?_
    show Steps p.tables e below (T5.setTop (mkF m 69 #[.val (.int p1), .val (.long q2), .second, .val (.long q3), .second, .val (.long q4), .second, .val (.long q5), .second, .val (.int vt), .val (.long tk), .second, .val (.long lp), .second, .val (.long va), .second, .val (.long vb), .second, .val (.long vn), .second, .val (.ref b1), .unset, .unset, .unset, .unset, .unset, .unset, .unset, .unset] [])) _
    refine XS.aload X5.here hx rfl (hb hby at_69) rfl rfl ?_
    show Steps p.tables e below (T5.setTop (mkF m 71 #[.val (.int p1), .val (.long q2), .second, .val (.long q3), .second, .val (.long q4), .second, .val (.long q5), .second, .val (.int vt), .val (.long tk), .second, .val (.long lp), .second, .val (.long va), .second, .val (.long vb), .second, .val (.long vn), .second, .val (.ref b1), .unset, .unset, .unset, .unset, .unset, .unset, .unset, .unset] [(.ref b1)])) _
    refine XS.lload X5.here hx rfl (hb hby at_71) rfl ?_
    show Steps p.tables e below (T5.setTop (mkF m 73 #[.val (.int p1), .val (.long q2), .second, .val (.long q3), .second, .val (.long q4), .second, .val (.long q5), .second, .val (.int vt), .val (.long tk), .second, .val (.long lp), .second, .val (.long va), .second, .val (.long vb), .second, .val (.long vn), .second, .val (.ref b1), .unset, .unset, .unset, .unset, .unset, .unset, .unset, .unset] [(.long va), (.ref b1)])) _
    refine st6.trans ?_
    show Steps p.tables e below (T6.setTop (mkF m 76 #[.val (.int p1), .val (.long q2), .second, .val (.long q3), .second, .val (.long q4), .second, .val (.long q5), .second, .val (.int vt), .val (.long tk), .second, .val (.long lp), .second, .val (.long va), .second, .val (.long vb), .second, .val (.long vn), .second, .val (.ref b1), .unset, .unset, .unset, .unset, .unset, .unset, .unset, .unset] [])) _
    refine XS.aload X6.here hx rfl (hb hby at_76) rfl rfl ?_
    show Steps p.tables e below (T6.setTop (mkF m 78 #[.val (.int p1), .val (.long q2), .second, .val (.long q3), .second, .val (.long q4), .second, .val (.long q5), .second, .val (.int vt), .val (.long tk), .second, .val (.long lp), .second, .val (.long va), .second, .val (.long vb), .second, .val (.long vn), .second, .val (.ref b1), .unset, .unset, .unset, .unset, .unset, .unset, .unset, .unset] [(.ref b1)])) _
    refine XS.lload X6.here hx rfl (hb hby at_78) rfl ?_
    show Steps p.tables e below (T6.setTop (mkF m 80 #[.val (.int p1), .val (.long q2), .second, .val (.long q3), .second, .val (.long q4), .second, .val (.long q5), .second, .val (.int vt), .val (.long tk), .second, .val (.long lp), .second, .val (.long va), .second, .val (.long vb), .second, .val (.long vn), .second, .val (.ref b1), .unset, .unset, .unset, .unset, .unset, .unset, .unset, .unset] [(.long vb), (.ref b1)])) _
    refine st7.trans ?_
    show Steps p.tables e below (T7.setTop (mkF m 83 #[.val (.int p1), .val (.long q2), .second, .val (.long q3), .second, .val (.long q4), .second, .val (.long q5), .second, .val (.int vt), .val (.long tk), .second, .val (.long lp), .second, .val (.long va), .second, .val (.long vb), .second, .val (.long vn), .second, .val (.ref b1), .unset, .unset, .unset, .unset, .unset, .unset, .unset, .unset] [])) _
    refine XS.lload X7.here hx rfl (hb hby at_83) rfl ?_
    show Steps p.tables e below (T7.setTop (mkF m 85 #[.val (.int p1), .val (.long q2), .second, .val (.long q3), .second, .val (.long q4), .second, .val (.long q5), .second, .val (.int vt), .val (.long tk), .second, .val (.long lp), .second, .val (.long va), .second, .val (.long vb), .second, .val (.long vn), .second, .val (.ref b1), .unset, .unset, .unset, .unset, .unset, .unset, .unset, .unset] [(.long va)])) _
    refine XS.lloadN X7.here hx rfl (hb hby at_85) rfl ?_
    show Steps p.tables e below (T7.setTop (mkF m 86 #[.val (.int p1), .val (.long q2), .second, .val (.long q3), .second, .val (.long q4), .second, .val (.long q5), .second, .val (.int vt), .val (.long tk), .second, .val (.long lp), .second, .val (.long va), .second, .val (.long vb), .second, .val (.long vn), .second, .val (.ref b1), .unset, .unset, .unset, .unset, .unset, .unset, .unset, .unset] [(.long q2), (.long va)])) _
    refine XS.lsub X7.here hx rfl (hb hby at_86) rfl ?_
    show Steps p.tables e below (T7.setTop (mkF m 87 #[.val (.int p1), .val (.long q2), .second, .val (.long q3), .second, .val (.long q4), .second, .val (.long q5), .second, .val (.int vt), .val (.long tk), .second, .val (.long lp), .second, .val (.long va), .second, .val (.long vb), .second, .val (.long vn), .second, .val (.ref b1), .unset, .unset, .unset, .unset, .unset, .unset, .unset, .unset] [(.long (va - q2))])) _
    refine XS.lload X7.here hx rfl (hb hby at_87) rfl ?_
    show Steps p.tables e below (T7.setTop (mkF m 89 #[.val (.int p1), .val (.long q2), .second, .val (.long q3), .second, .val (.long q4), .second, .val (.long q5), .second, .val (.int vt), .val (.long tk), .second, .val (.long lp), .second, .val (.long va), .second, .val (.long vb), .second, .val (.long vn), .second, .val (.ref b1), .unset, .unset, .unset, .unset, .unset, .unset, .unset, .unset] [(.long lp), (.long (va - q2))])) _
    refine XS.lcmp X7.here hx rfl (hb hby at_89) rfl ?_
    show Steps p.tables e below (T7.setTop (mkF m 90 #[.val (.int p1), .val (.long q2), .second, .val (.long q3), .second, .val (.long q4), .second, .val (.long q5), .second, .val (.int vt), .val (.long tk), .second, .val (.long lp), .second, .val (.long va), .second, .val (.long vb), .second, .val (.long vn), .second, .val (.ref b1), .unset, .unset, .unset, .unset, .unset, .unset, .unset, .unset] [(.int (lcmpW (va - q2) lp))])) _
    refine XS.ifNo X7.here hx rfl (hb hby at_90) rfl ((if0 _ _).trans (tlt hc90).2.2.2) ?_
    show Steps p.tables e below (T7.setTop (mkF m 93 #[.val (.int p1), .val (.long q2), .second, .val (.long q3), .second, .val (.long q4), .second, .val (.long q5), .second, .val (.int vt), .val (.long tk), .second, .val (.long lp), .second, .val (.long va), .second, .val (.long vb), .second, .val (.long vn), .second, .val (.ref b1), .unset, .unset, .unset, .unset, .unset, .unset, .unset, .unset] [])) _
    refine XS.lload X7.here hx rfl (hb hby at_93) rfl ?_
    show Steps p.tables e below (T7.setTop (mkF m 95 #[.val (.int p1), .val (.long q2), .second, .val (.long q3), .second, .val (.long q4), .second, .val (.long q5), .second, .val (.int vt), .val (.long tk), .second, .val (.long lp), .second, .val (.long va), .second, .val (.long vb), .second, .val (.long vn), .second, .val (.ref b1), .unset, .unset, .unset, .unset, .unset, .unset, .unset, .unset] [(.long va)])) _
    refine XS.lload X7.here hx rfl (hb hby at_95) rfl ?_
    show Steps p.tables e below (T7.setTop (mkF m 97 #[.val (.int p1), .val (.long q2), .second, .val (.long q3), .second, .val (.long q4), .second, .val (.long q5), .second, .val (.int vt), .val (.long tk), .second, .val (.long lp), .second, .val (.long va), .second, .val (.long vb), .second, .val (.long vn), .second, .val (.ref b1), .unset, .unset, .unset, .unset, .unset, .unset, .unset, .unset] [(.long tk), (.long va)])) _
    refine XS.ladd X7.here hx rfl (hb hby at_97) rfl ?_
    show Steps p.tables e below (T7.setTop (mkF m 98 #[.val (.int p1), .val (.long q2), .second, .val (.long q3), .second, .val (.long q4), .second, .val (.long q5), .second, .val (.int vt), .val (.long tk), .second, .val (.long lp), .second, .val (.long va), .second, .val (.long vb), .second, .val (.long vn), .second, .val (.ref b1), .unset, .unset, .unset, .unset, .unset, .unset, .unset, .unset] [(.long (va + tk))])) _
    rw [hca]
    show Steps p.tables e below (T7.setTop (mkF m 98 #[.val (.int p1), .val (.long q2), .second, .val (.long q3), .second, .val (.long q4), .second, .val (.long q5), .second, .val (.int vt), .val (.long tk), .second, .val (.long lp), .second, .val (.long va), .second, .val (.long vb), .second, .val (.long vn), .second, .val (.ref b1), .unset, .unset, .unset, .unset, .unset, .unset, .unset, .unset] [(.long ca)])) _
    refine XS.goto X7.here hx rfl (pc0 := 98) (pc' := 102) rfl (hb hby at_98) (by decide) (by decide) ?_
    show Steps p.tables e below (T7.setTop (mkF m 102 #[.val (.int p1), .val (.long q2), .second, .val (.long q3), .second, .val (.long q4), .second, .val (.long q5), .second, .val (.int vt), .val (.long tk), .second, .val (.long lp), .second, .val (.long va), .second, .val (.long vb), .second, .val (.long vn), .second, .val (.ref b1), .unset, .unset, .unset, .unset, .unset, .unset, .unset, .unset] [(.long ca)])) _
    refine XS.lstore X7.here hx rfl (hb hby at_102) rfl (l' := #[.val (.int p1), .val (.long q2), .second, .val (.long q3), .second, .val (.long q4), .second, .val (.long q5), .second, .val (.int vt), .val (.long tk), .second, .val (.long lp), .second, .val (.long va), .second, .val (.long vb), .second, .val (.long vn), .second, .val (.ref b1), .val (.long ca), .second, .unset, .unset, .unset, .unset, .unset, .unset]) rfl ?_
    show Steps p.tables e below (T7.setTop (mkF m 104 #[.val (.int p1), .val (.long q2), .second, .val (.long q3), .second, .val (.long q4), .second, .val (.long q5), .second, .val (.int vt), .val (.long tk), .second, .val (.long lp), .second, .val (.long va), .second, .val (.long vb), .second, .val (.long vn), .second, .val (.ref b1), .val (.long ca), .second, .unset, .unset, .unset, .unset, .unset, .unset] [])) _
    refine XS.lload X7.here hx rfl (hb hby at_104) rfl ?_
    show Steps p.tables e below (T7.setTop (mkF m 106 #[.val (.int p1), .val (.long q2), .second, .val (.long q3), .second, .val (.long q4), .second, .val (.long q5), .second, .val (.int vt), .val (.long tk), .second, .val (.long lp), .second, .val (.long va), .second, .val (.long vb), .second, .val (.long vn), .second, .val (.ref b1), .val (.long ca), .second, .unset, .unset, .unset, .unset, .unset, .unset] [(.long vb)])) _
    refine XS.lload X7.here hx rfl (hb hby at_106) rfl ?_
    show Steps p.tables e below (T7.setTop (mkF m 108 #[.val (.int p1), .val (.long q2), .second, .val (.long q3), .second, .val (.long q4), .second, .val (.long q5), .second, .val (.int vt), .val (.long tk), .second, .val (.long lp), .second, .val (.long va), .second, .val (.long vb), .second, .val (.long vn), .second, .val (.ref b1), .val (.long ca), .second, .unset, .unset, .unset, .unset, .unset, .unset] [(.long va), (.long vb)])) _
    refine XS.lsub X7.here hx rfl (hb hby at_108) rfl ?_
    show Steps p.tables e below (T7.setTop (mkF m 109 #[.val (.int p1), .val (.long q2), .second, .val (.long q3), .second, .val (.long q4), .second, .val (.long q5), .second, .val (.int vt), .val (.long tk), .second, .val (.long lp), .second, .val (.long va), .second, .val (.long vb), .second, .val (.long vn), .second, .val (.ref b1), .val (.long ca), .second, .unset, .unset, .unset, .unset, .unset, .unset] [(.long (vb - va))])) _
    refine XS.lload X7.here hx rfl (hb hby at_109) rfl ?_
    show Steps p.tables e below (T7.setTop (mkF m 111 #[.val (.int p1), .val (.long q2), .second, .val (.long q3), .second, .val (.long q4), .second, .val (.long q5), .second, .val (.int vt), .val (.long tk), .second, .val (.long lp), .second, .val (.long va), .second, .val (.long vb), .second, .val (.long vn), .second, .val (.ref b1), .val (.long ca), .second, .unset, .unset, .unset, .unset, .unset, .unset] [(.long lp), (.long (vb - va))])) _
    refine XS.lcmp X7.here hx rfl (hb hby at_111) rfl ?_
    show Steps p.tables e below (T7.setTop (mkF m 112 #[.val (.int p1), .val (.long q2), .second, .val (.long q3), .second, .val (.long q4), .second, .val (.long q5), .second, .val (.int vt), .val (.long tk), .second, .val (.long lp), .second, .val (.long va), .second, .val (.long vb), .second, .val (.long vn), .second, .val (.ref b1), .val (.long ca), .second, .unset, .unset, .unset, .unset, .unset, .unset] [(.int (lcmpW (vb - va) lp))])) _
    refine XS.ifYes X7.here hx rfl (pc0 := 112) (pc' := 123) rfl (hb hby at_112) rfl ((if0 _ _).trans (flt hc112).2.2.2) (by decide) (by decide) ?_
    show Steps p.tables e below (T7.setTop (mkF m 123 #[.val (.int p1), .val (.long q2), .second, .val (.long q3), .second, .val (.long q4), .second, .val (.long q5), .second, .val (.int vt), .val (.long tk), .second, .val (.long lp), .second, .val (.long va), .second, .val (.long vb), .second, .val (.long vn), .second, .val (.ref b1), .val (.long ca), .second, .unset, .unset, .unset, .unset, .unset, .unset] [])) _
    refine XS.lload X7.here hx rfl (hb hby at_123) rfl ?_
    show Steps p.tables e below (T7.setTop (mkF m 125 #[.val (.int p1), .val (.long q2), .second, .val (.long q3), .second, .val (.long q4), .second, .val (.long q5), .second, .val (.int vt), .val (.long tk), .second, .val (.long lp), .second, .val (.long va), .second, .val (.long vb), .second, .val (.long vn), .second, .val (.ref b1), .val (.long ca), .second, .unset, .unset, .unset, .unset, .unset, .unset] [(.long ca)])) _
    refine XS.lstore X7.here hx rfl (hb hby at_125) rfl (l' := #[.val (.int p1), .val (.long q2), .second, .val (.long q3), .second, .val (.long q4), .second, .val (.long q5), .second, .val (.int vt), .val (.long tk), .second, .val (.long lp), .second, .val (.long va), .second, .val (.long vb), .second, .val (.long vn), .second, .val (.ref b1), .val (.long ca), .second, .val (.long ca), .second, .unset, .unset, .unset, .unset]) rfl ?_
    show Steps p.tables e below (T7.setTop (mkF m 127 #[.val (.int p1), .val (.long q2), .second, .val (.long q3), .second, .val (.long q4), .second, .val (.long q5), .second, .val (.int vt), .val (.long tk), .second, .val (.long lp), .second, .val (.long va), .second, .val (.long vb), .second, .val (.long vn), .second, .val (.ref b1), .val (.long ca), .second, .val (.long ca), .second, .unset, .unset, .unset, .unset] [])) _
    refine XS.lload X7.here hx rfl (hb hby at_127) rfl ?_
    show Steps p.tables e below (T7.setTop (mkF m 129 #[.val (.int p1), .val (.long q2), .second, .val (.long q3), .second, .val (.long q4), .second, .val (.long q5), .second, .val (.int vt), .val (.long tk), .second, .val (.long lp), .second, .val (.long va), .second, .val (.long vb), .second, .val (.long vn), .second, .val (.ref b1), .val (.long ca), .second, .val (.long ca), .second, .unset, .unset, .unset, .unset] [(.long vb)])) _
    refine XS.lstore X7.here hx rfl (hb hby at_129) rfl (l' := #[.val (.int p1), .val (.long q2), .second, .val (.long q3), .second, .val (.long q4), .second, .val (.long q5), .second, .val (.int vt), .val (.long tk), .second, .val (.long lp), .second, .val (.long va), .second, .val (.long vb), .second, .val (.long vn), .second, .val (.ref b1), .val (.long ca), .second, .val (.long ca), .second, .val (.long vb), .second, .unset, .unset]) rfl ?_
    show Steps p.tables e below (T7.setTop (mkF m 131 #[.val (.int p1), .val (.long q2), .second, .val (.long q3), .second, .val (.long q4), .second, .val (.long q5), .second, .val (.int vt), .val (.long tk), .second, .val (.long lp), .second, .val (.long va), .second, .val (.long vb), .second, .val (.long vn), .second, .val (.ref b1), .val (.long ca), .second, .val (.long ca), .second, .val (.long vb), .second, .unset, .unset] [])) _
    refine XS.lload X7.here hx rfl (hb hby at_131) rfl ?_
    show Steps p.tables e below (T7.setTop (mkF m 133 #[.val (.int p1), .val (.long q2), .second, .val (.long q3), .second, .val (.long q4), .second, .val (.long q5), .second, .val (.int vt), .val (.long tk), .second, .val (.long lp), .second, .val (.long va), .second, .val (.long vb), .second, .val (.long vn), .second, .val (.ref b1), .val (.long ca), .second, .val (.long ca), .second, .val (.long vb), .second, .unset, .unset] [(.long ca)])) _
    refine XS.lload X7.here hx rfl (hb hby at_133) rfl ?_
    show Steps p.tables e below (T7.setTop (mkF m 135 #[.val (.int p1), .val (.long q2), .second, .val (.long q3), .second, .val (.long q4), .second, .val (.long q5), .second, .val (.int vt), .val (.long tk), .second, .val (.long lp), .second, .val (.long va), .second, .val (.long vb), .second, .val (.long vn), .second, .val (.ref b1), .val (.long ca), .second, .val (.long ca), .second, .val (.long vb), .second, .unset, .unset] [(.long tk), (.long ca)])) _
    refine XS.lsub X7.here hx rfl (hb hby at_135) rfl ?_
    show Steps p.tables e below (T7.setTop (mkF m 136 #[.val (.int p1), .val (.long q2), .second, .val (.long q3), .second, .val (.long q4), .second, .val (.long q5), .second, .val (.int vt), .val (.long tk), .second, .val (.long lp), .second, .val (.long va), .second, .val (.long vb), .second, .val (.long vn), .second, .val (.ref b1), .val (.long ca), .second, .val (.long ca), .second, .val (.long vb), .second, .unset, .unset] [(.long (ca - tk))])) _
    rw [hm1]
    show Steps p.tables e below (T7.setTop (mkF m 136 #[.val (.int p1), .val (.long q2), .second, .val (.long q3), .second, .val (.long q4), .second, .val (.long q5), .second, .val (.int vt), .val (.long tk), .second, .val (.long lp), .second, .val (.long va), .second, .val (.long vb), .second, .val (.long vn), .second, .val (.ref b1), .val (.long ca), .second, .val (.long ca), .second, .val (.long vb), .second, .unset, .unset] [(.long vm1)])) _
    refine XS.lconst X7.here hx rfl (hb hby at_136) ?_
    show Steps p.tables e below (T7.setTop (mkF m 137 #[.val (.int p1), .val (.long q2), .second, .val (.long q3), .second, .val (.long q4), .second, .val (.long q5), .second, .val (.int vt), .val (.long tk), .second, .val (.long lp), .second, .val (.long va), .second, .val (.long vb), .second, .val (.long vn), .second, .val (.ref b1), .val (.long ca), .second, .val (.long ca), .second, .val (.long vb), .second, .unset, .unset] [(.long 1), (.long vm1)])) _
    refine XS.lsub X7.here hx rfl (hb hby at_137) rfl ?_
    show Steps p.tables e below (T7.setTop (mkF m 138 #[.val (.int p1), .val (.long q2), .second, .val (.long q3), .second, .val (.long q4), .second, .val (.long q5), .second, .val (.int vt), .val (.long tk), .second, .val (.long lp), .second, .val (.long va), .second, .val (.long vb), .second, .val (.long vn), .second, .val (.ref b1), .val (.long ca), .second, .val (.long ca), .second, .val (.long vb), .second, .unset, .unset] [(.long (vm1 - (1 : Int64)))])) _
    rw [hm]
    show Steps p.tables e below (T7.setTop (mkF m 138 #[.val (.int p1), .val (.long q2), .second, .val (.long q3), .second, .val (.long q4), .second, .val (.long q5), .second, .val (.int vt), .val (.long tk), .second, .val (.long lp), .second, .val (.long va), .second, .val (.long vb), .second, .val (.long vn), .second, .val (.ref b1), .val (.long ca), .second, .val (.long ca), .second, .val (.long vb), .second, .unset, .unset] [(.long vmm)])) _
    refine XS.lstore X7.here hx rfl (hb hby at_138) rfl (l' := #[.val (.int p1), .val (.long q2), .second, .val (.long q3), .second, .val (.long q4), .second, .val (.long q5), .second, .val (.int vt), .val (.long tk), .second, .val (.long lp), .second, .val (.long va), .second, .val (.long vb), .second, .val (.long vn), .second, .val (.ref b1), .val (.long ca), .second, .val (.long ca), .second, .val (.long vb), .second, .val (.long vmm), .second]) rfl ?_
    show Steps p.tables e below (T7.setTop (mkF m 140 #[.val (.int p1), .val (.long q2), .second, .val (.long q3), .second, .val (.long q4), .second, .val (.long q5), .second, .val (.int vt), .val (.long tk), .second, .val (.long lp), .second, .val (.long va), .second, .val (.long vb), .second, .val (.long vn), .second, .val (.ref b1), .val (.long ca), .second, .val (.long ca), .second, .val (.long vb), .second, .val (.long vmm), .second] [])) _
    refine XS.aload X7.here hx rfl (hb hby at_140) rfl rfl ?_
    show Steps p.tables e below (T7.setTop (mkF m 142 #[.val (.int p1), .val (.long q2), .second, .val (.long q3), .second, .val (.long q4), .second, .val (.long q5), .second, .val (.int vt), .val (.long tk), .second, .val (.long lp), .second, .val (.long va), .second, .val (.long vb), .second, .val (.long vn), .second, .val (.ref b1), .val (.long ca), .second, .val (.long ca), .second, .val (.long vb), .second, .val (.long vmm), .second] [(.ref b1)])) _
    refine XS.lload X7.here hx rfl (hb hby at_142) rfl ?_
    show Steps p.tables e below (T7.setTop (mkF m 144 #[.val (.int p1), .val (.long q2), .second, .val (.long q3), .second, .val (.long q4), .second, .val (.long q5), .second, .val (.int vt), .val (.long tk), .second, .val (.long lp), .second, .val (.long va), .second, .val (.long vb), .second, .val (.long vn), .second, .val (.ref b1), .val (.long ca), .second, .val (.long ca), .second, .val (.long vb), .second, .val (.long vmm), .second] [(.long vn), (.ref b1)])) _
    refine st8.trans ?_
    show Steps p.tables e below (T8.setTop (mkF m 147 #[.val (.int p1), .val (.long q2), .second, .val (.long q3), .second, .val (.long q4), .second, .val (.long q5), .second, .val (.int vt), .val (.long tk), .second, .val (.long lp), .second, .val (.long va), .second, .val (.long vb), .second, .val (.long vn), .second, .val (.ref b1), .val (.long ca), .second, .val (.long ca), .second, .val (.long vb), .second, .val (.long vmm), .second] [(.long (own_ref vn vb ca tk lp))])) _
    refine XS.lload X8.here hx rfl (hb hby at_147) rfl ?_
    show Steps p.tables e below (T8.setTop (mkF m 149 #[.val (.int p1), .val (.long q2), .second, .val (.long q3), .second, .val (.long q4), .second, .val (.long q5), .second, .val (.int vt), .val (.long tk), .second, .val (.long lp), .second, .val (.long va), .second, .val (.long vb), .second, .val (.long vn), .second, .val (.ref b1), .val (.long ca), .second, .val (.long ca), .second, .val (.long vb), .second, .val (.long vmm), .second] [(.long vn), (.long (own_ref vn vb ca tk lp))])) _
    refine XS.lload X8.here hx rfl (hb hby at_149) rfl ?_
    show Steps p.tables e below (T8.setTop (mkF m 151 #[.val (.int p1), .val (.long q2), .second, .val (.long q3), .second, .val (.long q4), .second, .val (.long q5), .second, .val (.int vt), .val (.long tk), .second, .val (.long lp), .second, .val (.long va), .second, .val (.long vb), .second, .val (.long vn), .second, .val (.ref b1), .val (.long ca), .second, .val (.long ca), .second, .val (.long vb), .second, .val (.long vmm), .second] [(.long vb), (.long vn), (.long (own_ref vn vb ca tk lp))])) _
    refine XS.lload X8.here hx rfl (hb hby at_151) rfl ?_
    show Steps p.tables e below (T8.setTop (mkF m 153 #[.val (.int p1), .val (.long q2), .second, .val (.long q3), .second, .val (.long q4), .second, .val (.long q5), .second, .val (.int vt), .val (.long tk), .second, .val (.long lp), .second, .val (.long va), .second, .val (.long vb), .second, .val (.long vn), .second, .val (.ref b1), .val (.long ca), .second, .val (.long ca), .second, .val (.long vb), .second, .val (.long vmm), .second] [(.long ca), (.long vb), (.long vn), (.long (own_ref vn vb ca tk lp))])) _
    refine XS.lload X8.here hx rfl (hb hby at_153) rfl ?_
    show Steps p.tables e below (T8.setTop (mkF m 155 #[.val (.int p1), .val (.long q2), .second, .val (.long q3), .second, .val (.long q4), .second, .val (.long q5), .second, .val (.int vt), .val (.long tk), .second, .val (.long lp), .second, .val (.long va), .second, .val (.long vb), .second, .val (.long vn), .second, .val (.ref b1), .val (.long ca), .second, .val (.long ca), .second, .val (.long vb), .second, .val (.long vmm), .second] [(.long tk), (.long ca), (.long vb), (.long vn), (.long (own_ref vn vb ca tk lp))])) _
    refine XS.lload X8.here hx rfl (hb hby at_155) rfl ?_
    show Steps p.tables e below (T8.setTop (mkF m 157 #[.val (.int p1), .val (.long q2), .second, .val (.long q3), .second, .val (.long q4), .second, .val (.long q5), .second, .val (.int vt), .val (.long tk), .second, .val (.long lp), .second, .val (.long va), .second, .val (.long vb), .second, .val (.long vn), .second, .val (.ref b1), .val (.long ca), .second, .val (.long ca), .second, .val (.long vb), .second, .val (.long vmm), .second] [(.long lp), (.long tk), (.long ca), (.long vb), (.long vn), (.long (own_ref vn vb ca tk lp))])) _
    refine st9 _ ?_
    show Steps p.tables e below (T9.setTop (mkF m 160 #[.val (.int p1), .val (.long q2), .second, .val (.long q3), .second, .val (.long q4), .second, .val (.long q5), .second, .val (.int vt), .val (.long tk), .second, .val (.long lp), .second, .val (.long va), .second, .val (.long vb), .second, .val (.long vn), .second, .val (.ref b1), .val (.long ca), .second, .val (.long ca), .second, .val (.long vb), .second, .val (.long vmm), .second] [(.long (own_ref vn vb ca tk lp)), (.long (own_ref vn vb ca tk lp))])) _
    refine XS.lcmp X9.here hx rfl (hb hby at_160) rfl ?_
    show Steps p.tables e below (T9.setTop (mkF m 161 #[.val (.int p1), .val (.long q2), .second, .val (.long q3), .second, .val (.long q4), .second, .val (.long q5), .second, .val (.int vt), .val (.long tk), .second, .val (.long lp), .second, .val (.long va), .second, .val (.long vb), .second, .val (.long vn), .second, .val (.ref b1), .val (.long ca), .second, .val (.long ca), .second, .val (.long vb), .second, .val (.long vmm), .second] [(.int (lcmpW (own_ref vn vb ca tk lp) (own_ref vn vb ca tk lp)))])) _
    rw [own_lcmp0]
    show Steps p.tables e below (T9.setTop (mkF m 161 #[.val (.int p1), .val (.long q2), .second, .val (.long q3), .second, .val (.long q4), .second, .val (.long q5), .second, .val (.int vt), .val (.long tk), .second, .val (.long lp), .second, .val (.long va), .second, .val (.long vb), .second, .val (.long vn), .second, .val (.ref b1), .val (.long ca), .second, .val (.long ca), .second, .val (.long vb), .second, .val (.long vmm), .second] [(.int 0)])) _
    refine XS.ifNo X9.here hx rfl (hb hby at_161) rfl ((if0 _ _).trans (teq (by decide : (0 : Int32) = (0 : Int32))).2) ?_
    show Steps p.tables e below (T9.setTop (mkF m 164 #[.val (.int p1), .val (.long q2), .second, .val (.long q3), .second, .val (.long q4), .second, .val (.long q5), .second, .val (.int vt), .val (.long tk), .second, .val (.long lp), .second, .val (.long va), .second, .val (.long vb), .second, .val (.long vn), .second, .val (.ref b1), .val (.long ca), .second, .val (.long ca), .second, .val (.long vb), .second, .val (.long vmm), .second] [])) _
    refine XS.aload X9.here hx rfl (hb hby at_164) rfl rfl ?_
    show Steps p.tables e below (T9.setTop (mkF m 166 #[.val (.int p1), .val (.long q2), .second, .val (.long q3), .second, .val (.long q4), .second, .val (.long q5), .second, .val (.int vt), .val (.long tk), .second, .val (.long lp), .second, .val (.long va), .second, .val (.long vb), .second, .val (.long vn), .second, .val (.ref b1), .val (.long ca), .second, .val (.long ca), .second, .val (.long vb), .second, .val (.long vmm), .second] [(.ref b1)])) _
    refine XS.lload X9.here hx rfl (hb hby at_166) rfl ?_
    show Steps p.tables e below (T9.setTop (mkF m 168 #[.val (.int p1), .val (.long q2), .second, .val (.long q3), .second, .val (.long q4), .second, .val (.long q5), .second, .val (.int vt), .val (.long tk), .second, .val (.long lp), .second, .val (.long va), .second, .val (.long vb), .second, .val (.long vn), .second, .val (.ref b1), .val (.long ca), .second, .val (.long ca), .second, .val (.long vb), .second, .val (.long vmm), .second] [(.long vb), (.ref b1)])) _
    refine XS.lconst X9.here hx rfl (hb hby at_168) ?_
    show Steps p.tables e below (T9.setTop (mkF m 169 #[.val (.int p1), .val (.long q2), .second, .val (.long q3), .second, .val (.long q4), .second, .val (.long q5), .second, .val (.int vt), .val (.long tk), .second, .val (.long lp), .second, .val (.long va), .second, .val (.long vb), .second, .val (.long vn), .second, .val (.ref b1), .val (.long ca), .second, .val (.long ca), .second, .val (.long vb), .second, .val (.long vmm), .second] [(.long 1), (.long vb), (.ref b1)])) _
    refine XS.lsub X9.here hx rfl (hb hby at_169) rfl ?_
    show Steps p.tables e below (T9.setTop (mkF m 170 #[.val (.int p1), .val (.long q2), .second, .val (.long q3), .second, .val (.long q4), .second, .val (.long q5), .second, .val (.int vt), .val (.long tk), .second, .val (.long lp), .second, .val (.long va), .second, .val (.long vb), .second, .val (.long vn), .second, .val (.ref b1), .val (.long ca), .second, .val (.long ca), .second, .val (.long vb), .second, .val (.long vmm), .second] [(.long (vb - (1 : Int64))), (.ref b1)])) _
    rw [hbm]
    show Steps p.tables e below (T9.setTop (mkF m 170 #[.val (.int p1), .val (.long q2), .second, .val (.long q3), .second, .val (.long q4), .second, .val (.long q5), .second, .val (.int vt), .val (.long tk), .second, .val (.long lp), .second, .val (.long va), .second, .val (.long vb), .second, .val (.long vn), .second, .val (.ref b1), .val (.long ca), .second, .val (.long ca), .second, .val (.long vb), .second, .val (.long vmm), .second] [(.long bm), (.ref b1)])) _
    refine st10.trans ?_
    show Steps p.tables e below (T10.setTop (mkF m 173 #[.val (.int p1), .val (.long q2), .second, .val (.long q3), .second, .val (.long q4), .second, .val (.long q5), .second, .val (.int vt), .val (.long tk), .second, .val (.long lp), .second, .val (.long va), .second, .val (.long vb), .second, .val (.long vn), .second, .val (.ref b1), .val (.long ca), .second, .val (.long ca), .second, .val (.long vb), .second, .val (.long vmm), .second] [(.long (own_ref bm vb ca tk lp))])) _
    refine XS.lload X10.here hx rfl (hb hby at_173) rfl ?_
    show Steps p.tables e below (T10.setTop (mkF m 175 #[.val (.int p1), .val (.long q2), .second, .val (.long q3), .second, .val (.long q4), .second, .val (.long q5), .second, .val (.int vt), .val (.long tk), .second, .val (.long lp), .second, .val (.long va), .second, .val (.long vb), .second, .val (.long vn), .second, .val (.ref b1), .val (.long ca), .second, .val (.long ca), .second, .val (.long vb), .second, .val (.long vmm), .second] [(.long vb), (.long (own_ref bm vb ca tk lp))])) _
    refine XS.lconst X10.here hx rfl (hb hby at_175) ?_
    show Steps p.tables e below (T10.setTop (mkF m 176 #[.val (.int p1), .val (.long q2), .second, .val (.long q3), .second, .val (.long q4), .second, .val (.long q5), .second, .val (.int vt), .val (.long tk), .second, .val (.long lp), .second, .val (.long va), .second, .val (.long vb), .second, .val (.long vn), .second, .val (.ref b1), .val (.long ca), .second, .val (.long ca), .second, .val (.long vb), .second, .val (.long vmm), .second] [(.long 1), (.long vb), (.long (own_ref bm vb ca tk lp))])) _
    refine XS.lsub X10.here hx rfl (hb hby at_176) rfl ?_
    show Steps p.tables e below (T10.setTop (mkF m 177 #[.val (.int p1), .val (.long q2), .second, .val (.long q3), .second, .val (.long q4), .second, .val (.long q5), .second, .val (.int vt), .val (.long tk), .second, .val (.long lp), .second, .val (.long va), .second, .val (.long vb), .second, .val (.long vn), .second, .val (.ref b1), .val (.long ca), .second, .val (.long ca), .second, .val (.long vb), .second, .val (.long vmm), .second] [(.long (vb - (1 : Int64))), (.long (own_ref bm vb ca tk lp))])) _
    rw [hbm]
    show Steps p.tables e below (T10.setTop (mkF m 177 #[.val (.int p1), .val (.long q2), .second, .val (.long q3), .second, .val (.long q4), .second, .val (.long q5), .second, .val (.int vt), .val (.long tk), .second, .val (.long lp), .second, .val (.long va), .second, .val (.long vb), .second, .val (.long vn), .second, .val (.ref b1), .val (.long ca), .second, .val (.long ca), .second, .val (.long vb), .second, .val (.long vmm), .second] [(.long bm), (.long (own_ref bm vb ca tk lp))])) _
    refine XS.lload X10.here hx rfl (hb hby at_177) rfl ?_
    show Steps p.tables e below (T10.setTop (mkF m 179 #[.val (.int p1), .val (.long q2), .second, .val (.long q3), .second, .val (.long q4), .second, .val (.long q5), .second, .val (.int vt), .val (.long tk), .second, .val (.long lp), .second, .val (.long va), .second, .val (.long vb), .second, .val (.long vn), .second, .val (.ref b1), .val (.long ca), .second, .val (.long ca), .second, .val (.long vb), .second, .val (.long vmm), .second] [(.long vb), (.long bm), (.long (own_ref bm vb ca tk lp))])) _
    refine XS.lload X10.here hx rfl (hb hby at_179) rfl ?_
    show Steps p.tables e below (T10.setTop (mkF m 181 #[.val (.int p1), .val (.long q2), .second, .val (.long q3), .second, .val (.long q4), .second, .val (.long q5), .second, .val (.int vt), .val (.long tk), .second, .val (.long lp), .second, .val (.long va), .second, .val (.long vb), .second, .val (.long vn), .second, .val (.ref b1), .val (.long ca), .second, .val (.long ca), .second, .val (.long vb), .second, .val (.long vmm), .second] [(.long ca), (.long vb), (.long bm), (.long (own_ref bm vb ca tk lp))])) _
    refine XS.lload X10.here hx rfl (hb hby at_181) rfl ?_
    show Steps p.tables e below (T10.setTop (mkF m 183 #[.val (.int p1), .val (.long q2), .second, .val (.long q3), .second, .val (.long q4), .second, .val (.long q5), .second, .val (.int vt), .val (.long tk), .second, .val (.long lp), .second, .val (.long va), .second, .val (.long vb), .second, .val (.long vn), .second, .val (.ref b1), .val (.long ca), .second, .val (.long ca), .second, .val (.long vb), .second, .val (.long vmm), .second] [(.long tk), (.long ca), (.long vb), (.long bm), (.long (own_ref bm vb ca tk lp))])) _
    refine XS.lload X10.here hx rfl (hb hby at_183) rfl ?_
    show Steps p.tables e below (T10.setTop (mkF m 185 #[.val (.int p1), .val (.long q2), .second, .val (.long q3), .second, .val (.long q4), .second, .val (.long q5), .second, .val (.int vt), .val (.long tk), .second, .val (.long lp), .second, .val (.long va), .second, .val (.long vb), .second, .val (.long vn), .second, .val (.ref b1), .val (.long ca), .second, .val (.long ca), .second, .val (.long vb), .second, .val (.long vmm), .second] [(.long lp), (.long tk), (.long ca), (.long vb), (.long bm), (.long (own_ref bm vb ca tk lp))])) _
    refine st11 _ ?_
    show Steps p.tables e below (T11.setTop (mkF m 188 #[.val (.int p1), .val (.long q2), .second, .val (.long q3), .second, .val (.long q4), .second, .val (.long q5), .second, .val (.int vt), .val (.long tk), .second, .val (.long lp), .second, .val (.long va), .second, .val (.long vb), .second, .val (.long vn), .second, .val (.ref b1), .val (.long ca), .second, .val (.long ca), .second, .val (.long vb), .second, .val (.long vmm), .second] [(.long (own_ref bm vb ca tk lp)), (.long (own_ref bm vb ca tk lp))])) _
    refine XS.lcmp X11.here hx rfl (hb hby at_188) rfl ?_
    show Steps p.tables e below (T11.setTop (mkF m 189 #[.val (.int p1), .val (.long q2), .second, .val (.long q3), .second, .val (.long q4), .second, .val (.long q5), .second, .val (.int vt), .val (.long tk), .second, .val (.long lp), .second, .val (.long va), .second, .val (.long vb), .second, .val (.long vn), .second, .val (.ref b1), .val (.long ca), .second, .val (.long ca), .second, .val (.long vb), .second, .val (.long vmm), .second] [(.int (lcmpW (own_ref bm vb ca tk lp) (own_ref bm vb ca tk lp)))])) _
    rw [own_lcmp0]
    show Steps p.tables e below (T11.setTop (mkF m 189 #[.val (.int p1), .val (.long q2), .second, .val (.long q3), .second, .val (.long q4), .second, .val (.long q5), .second, .val (.int vt), .val (.long tk), .second, .val (.long lp), .second, .val (.long va), .second, .val (.long vb), .second, .val (.long vn), .second, .val (.ref b1), .val (.long ca), .second, .val (.long ca), .second, .val (.long vb), .second, .val (.long vmm), .second] [(.int 0)])) _
    refine XS.ifNo X11.here hx rfl (hb hby at_189) rfl ((if0 _ _).trans (teq (by decide : (0 : Int32) = (0 : Int32))).2) ?_
    show Steps p.tables e below (T11.setTop (mkF m 192 #[.val (.int p1), .val (.long q2), .second, .val (.long q3), .second, .val (.long q4), .second, .val (.long q5), .second, .val (.int vt), .val (.long tk), .second, .val (.long lp), .second, .val (.long va), .second, .val (.long vb), .second, .val (.long vn), .second, .val (.ref b1), .val (.long ca), .second, .val (.long ca), .second, .val (.long vb), .second, .val (.long vmm), .second] [])) _
    refine XS.aload X11.here hx rfl (hb hby at_192) rfl rfl ?_
    show Steps p.tables e below (T11.setTop (mkF m 194 #[.val (.int p1), .val (.long q2), .second, .val (.long q3), .second, .val (.long q4), .second, .val (.long q5), .second, .val (.int vt), .val (.long tk), .second, .val (.long lp), .second, .val (.long va), .second, .val (.long vb), .second, .val (.long vn), .second, .val (.ref b1), .val (.long ca), .second, .val (.long ca), .second, .val (.long vb), .second, .val (.long vmm), .second] [(.ref b1)])) _
    refine XS.lload X11.here hx rfl (hb hby at_194) rfl ?_
    show Steps p.tables e below (T11.setTop (mkF m 196 #[.val (.int p1), .val (.long q2), .second, .val (.long q3), .second, .val (.long q4), .second, .val (.long q5), .second, .val (.int vt), .val (.long tk), .second, .val (.long lp), .second, .val (.long va), .second, .val (.long vb), .second, .val (.long vn), .second, .val (.ref b1), .val (.long ca), .second, .val (.long ca), .second, .val (.long vb), .second, .val (.long vmm), .second] [(.long vb), (.ref b1)])) _
    refine XS.lload X11.here hx rfl (hb hby at_196) rfl ?_
    show Steps p.tables e below (T11.setTop (mkF m 198 #[.val (.int p1), .val (.long q2), .second, .val (.long q3), .second, .val (.long q4), .second, .val (.long q5), .second, .val (.int vt), .val (.long tk), .second, .val (.long lp), .second, .val (.long va), .second, .val (.long vb), .second, .val (.long vn), .second, .val (.ref b1), .val (.long ca), .second, .val (.long ca), .second, .val (.long vb), .second, .val (.long vmm), .second] [(.long lp), (.long vb), (.ref b1)])) _
    refine XS.ladd X11.here hx rfl (hb hby at_198) rfl ?_
    show Steps p.tables e below (T11.setTop (mkF m 199 #[.val (.int p1), .val (.long q2), .second, .val (.long q3), .second, .val (.long q4), .second, .val (.long q5), .second, .val (.int vt), .val (.long tk), .second, .val (.long lp), .second, .val (.long va), .second, .val (.long vb), .second, .val (.long vn), .second, .val (.ref b1), .val (.long ca), .second, .val (.long ca), .second, .val (.long vb), .second, .val (.long vmm), .second] [(.long (vb + lp)), (.ref b1)])) _
    rw [hbl]
    show Steps p.tables e below (T11.setTop (mkF m 199 #[.val (.int p1), .val (.long q2), .second, .val (.long q3), .second, .val (.long q4), .second, .val (.long q5), .second, .val (.int vt), .val (.long tk), .second, .val (.long lp), .second, .val (.long va), .second, .val (.long vb), .second, .val (.long vn), .second, .val (.ref b1), .val (.long ca), .second, .val (.long ca), .second, .val (.long vb), .second, .val (.long vmm), .second] [(.long bl), (.ref b1)])) _
    refine st12.trans ?_
    show Steps p.tables e below (T12.setTop (mkF m 202 #[.val (.int p1), .val (.long q2), .second, .val (.long q3), .second, .val (.long q4), .second, .val (.long q5), .second, .val (.int vt), .val (.long tk), .second, .val (.long lp), .second, .val (.long va), .second, .val (.long vb), .second, .val (.long vn), .second, .val (.ref b1), .val (.long ca), .second, .val (.long ca), .second, .val (.long vb), .second, .val (.long vmm), .second] [(.long (own_ref bl vb ca tk lp))])) _
    refine XS.lload X12.here hx rfl (hb hby at_202) rfl ?_
    show Steps p.tables e below (T12.setTop (mkF m 204 #[.val (.int p1), .val (.long q2), .second, .val (.long q3), .second, .val (.long q4), .second, .val (.long q5), .second, .val (.int vt), .val (.long tk), .second, .val (.long lp), .second, .val (.long va), .second, .val (.long vb), .second, .val (.long vn), .second, .val (.ref b1), .val (.long ca), .second, .val (.long ca), .second, .val (.long vb), .second, .val (.long vmm), .second] [(.long vb), (.long (own_ref bl vb ca tk lp))])) _
    refine XS.lload X12.here hx rfl (hb hby at_204) rfl ?_
    show Steps p.tables e below (T12.setTop (mkF m 206 #[.val (.int p1), .val (.long q2), .second, .val (.long q3), .second, .val (.long q4), .second, .val (.long q5), .second, .val (.int vt), .val (.long tk), .second, .val (.long lp), .second, .val (.long va), .second, .val (.long vb), .second, .val (.long vn), .second, .val (.ref b1), .val (.long ca), .second, .val (.long ca), .second, .val (.long vb), .second, .val (.long vmm), .second] [(.long lp), (.long vb), (.long (own_ref bl vb ca tk lp))])) _
    refine XS.ladd X12.here hx rfl (hb hby at_206) rfl ?_
    show Steps p.tables e below (T12.setTop (mkF m 207 #[.val (.int p1), .val (.long q2), .second, .val (.long q3), .second, .val (.long q4), .second, .val (.long q5), .second, .val (.int vt), .val (.long tk), .second, .val (.long lp), .second, .val (.long va), .second, .val (.long vb), .second, .val (.long vn), .second, .val (.ref b1), .val (.long ca), .second, .val (.long ca), .second, .val (.long vb), .second, .val (.long vmm), .second] [(.long (vb + lp)), (.long (own_ref bl vb ca tk lp))])) _
    rw [hbl]
    show Steps p.tables e below (T12.setTop (mkF m 207 #[.val (.int p1), .val (.long q2), .second, .val (.long q3), .second, .val (.long q4), .second, .val (.long q5), .second, .val (.int vt), .val (.long tk), .second, .val (.long lp), .second, .val (.long va), .second, .val (.long vb), .second, .val (.long vn), .second, .val (.ref b1), .val (.long ca), .second, .val (.long ca), .second, .val (.long vb), .second, .val (.long vmm), .second] [(.long bl), (.long (own_ref bl vb ca tk lp))])) _
    refine XS.lload X12.here hx rfl (hb hby at_207) rfl ?_
    show Steps p.tables e below (T12.setTop (mkF m 209 #[.val (.int p1), .val (.long q2), .second, .val (.long q3), .second, .val (.long q4), .second, .val (.long q5), .second, .val (.int vt), .val (.long tk), .second, .val (.long lp), .second, .val (.long va), .second, .val (.long vb), .second, .val (.long vn), .second, .val (.ref b1), .val (.long ca), .second, .val (.long ca), .second, .val (.long vb), .second, .val (.long vmm), .second] [(.long vb), (.long bl), (.long (own_ref bl vb ca tk lp))])) _
    refine XS.lload X12.here hx rfl (hb hby at_209) rfl ?_
    show Steps p.tables e below (T12.setTop (mkF m 211 #[.val (.int p1), .val (.long q2), .second, .val (.long q3), .second, .val (.long q4), .second, .val (.long q5), .second, .val (.int vt), .val (.long tk), .second, .val (.long lp), .second, .val (.long va), .second, .val (.long vb), .second, .val (.long vn), .second, .val (.ref b1), .val (.long ca), .second, .val (.long ca), .second, .val (.long vb), .second, .val (.long vmm), .second] [(.long ca), (.long vb), (.long bl), (.long (own_ref bl vb ca tk lp))])) _
    refine XS.lload X12.here hx rfl (hb hby at_211) rfl ?_
    show Steps p.tables e below (T12.setTop (mkF m 213 #[.val (.int p1), .val (.long q2), .second, .val (.long q3), .second, .val (.long q4), .second, .val (.long q5), .second, .val (.int vt), .val (.long tk), .second, .val (.long lp), .second, .val (.long va), .second, .val (.long vb), .second, .val (.long vn), .second, .val (.ref b1), .val (.long ca), .second, .val (.long ca), .second, .val (.long vb), .second, .val (.long vmm), .second] [(.long tk), (.long ca), (.long vb), (.long bl), (.long (own_ref bl vb ca tk lp))])) _
    refine XS.lload X12.here hx rfl (hb hby at_213) rfl ?_
    show Steps p.tables e below (T12.setTop (mkF m 215 #[.val (.int p1), .val (.long q2), .second, .val (.long q3), .second, .val (.long q4), .second, .val (.long q5), .second, .val (.int vt), .val (.long tk), .second, .val (.long lp), .second, .val (.long va), .second, .val (.long vb), .second, .val (.long vn), .second, .val (.ref b1), .val (.long ca), .second, .val (.long ca), .second, .val (.long vb), .second, .val (.long vmm), .second] [(.long lp), (.long tk), (.long ca), (.long vb), (.long bl), (.long (own_ref bl vb ca tk lp))])) _
    refine st13 _ ?_
    show Steps p.tables e below (T13.setTop (mkF m 218 #[.val (.int p1), .val (.long q2), .second, .val (.long q3), .second, .val (.long q4), .second, .val (.long q5), .second, .val (.int vt), .val (.long tk), .second, .val (.long lp), .second, .val (.long va), .second, .val (.long vb), .second, .val (.long vn), .second, .val (.ref b1), .val (.long ca), .second, .val (.long ca), .second, .val (.long vb), .second, .val (.long vmm), .second] [(.long (own_ref bl vb ca tk lp)), (.long (own_ref bl vb ca tk lp))])) _
    refine XS.lcmp X13.here hx rfl (hb hby at_218) rfl ?_
    show Steps p.tables e below (T13.setTop (mkF m 219 #[.val (.int p1), .val (.long q2), .second, .val (.long q3), .second, .val (.long q4), .second, .val (.long q5), .second, .val (.int vt), .val (.long tk), .second, .val (.long lp), .second, .val (.long va), .second, .val (.long vb), .second, .val (.long vn), .second, .val (.ref b1), .val (.long ca), .second, .val (.long ca), .second, .val (.long vb), .second, .val (.long vmm), .second] [(.int (lcmpW (own_ref bl vb ca tk lp) (own_ref bl vb ca tk lp)))])) _
    rw [own_lcmp0]
    show Steps p.tables e below (T13.setTop (mkF m 219 #[.val (.int p1), .val (.long q2), .second, .val (.long q3), .second, .val (.long q4), .second, .val (.long q5), .second, .val (.int vt), .val (.long tk), .second, .val (.long lp), .second, .val (.long va), .second, .val (.long vb), .second, .val (.long vn), .second, .val (.ref b1), .val (.long ca), .second, .val (.long ca), .second, .val (.long vb), .second, .val (.long vmm), .second] [(.int 0)])) _
    refine XS.ifNo X13.here hx rfl (hb hby at_219) rfl ((if0 _ _).trans (teq (by decide : (0 : Int32) = (0 : Int32))).2) ?_
    show Steps p.tables e below (T13.setTop (mkF m 222 #[.val (.int p1), .val (.long q2), .second, .val (.long q3), .second, .val (.long q4), .second, .val (.long q5), .second, .val (.int vt), .val (.long tk), .second, .val (.long lp), .second, .val (.long va), .second, .val (.long vb), .second, .val (.long vn), .second, .val (.ref b1), .val (.long ca), .second, .val (.long ca), .second, .val (.long vb), .second, .val (.long vmm), .second] [])) _
    refine XS.aload X13.here hx rfl (hb hby at_222) rfl rfl ?_
    show Steps p.tables e below (T13.setTop (mkF m 224 #[.val (.int p1), .val (.long q2), .second, .val (.long q3), .second, .val (.long q4), .second, .val (.long q5), .second, .val (.int vt), .val (.long tk), .second, .val (.long lp), .second, .val (.long va), .second, .val (.long vb), .second, .val (.long vn), .second, .val (.ref b1), .val (.long ca), .second, .val (.long ca), .second, .val (.long vb), .second, .val (.long vmm), .second] [(.ref b1)])) _
    refine XS.lload X13.here hx rfl (hb hby at_224) rfl ?_
    show Steps p.tables e below (T13.setTop (mkF m 226 #[.val (.int p1), .val (.long q2), .second, .val (.long q3), .second, .val (.long q4), .second, .val (.long q5), .second, .val (.int vt), .val (.long tk), .second, .val (.long lp), .second, .val (.long va), .second, .val (.long vb), .second, .val (.long vn), .second, .val (.ref b1), .val (.long ca), .second, .val (.long ca), .second, .val (.long vb), .second, .val (.long vmm), .second] [(.long vb), (.ref b1)])) _
    refine XS.lload X13.here hx rfl (hb hby at_226) rfl ?_
    show Steps p.tables e below (T13.setTop (mkF m 228 #[.val (.int p1), .val (.long q2), .second, .val (.long q3), .second, .val (.long q4), .second, .val (.long q5), .second, .val (.int vt), .val (.long tk), .second, .val (.long lp), .second, .val (.long va), .second, .val (.long vb), .second, .val (.long vn), .second, .val (.ref b1), .val (.long ca), .second, .val (.long ca), .second, .val (.long vb), .second, .val (.long vmm), .second] [(.long lp), (.long vb), (.ref b1)])) _
    refine XS.ladd X13.here hx rfl (hb hby at_228) rfl ?_
    show Steps p.tables e below (T13.setTop (mkF m 229 #[.val (.int p1), .val (.long q2), .second, .val (.long q3), .second, .val (.long q4), .second, .val (.long q5), .second, .val (.int vt), .val (.long tk), .second, .val (.long lp), .second, .val (.long va), .second, .val (.long vb), .second, .val (.long vn), .second, .val (.ref b1), .val (.long ca), .second, .val (.long ca), .second, .val (.long vb), .second, .val (.long vmm), .second] [(.long (vb + lp)), (.ref b1)])) _
    rw [hbl]
    show Steps p.tables e below (T13.setTop (mkF m 229 #[.val (.int p1), .val (.long q2), .second, .val (.long q3), .second, .val (.long q4), .second, .val (.long q5), .second, .val (.int vt), .val (.long tk), .second, .val (.long lp), .second, .val (.long va), .second, .val (.long vb), .second, .val (.long vn), .second, .val (.ref b1), .val (.long ca), .second, .val (.long ca), .second, .val (.long vb), .second, .val (.long vmm), .second] [(.long bl), (.ref b1)])) _
    refine XS.lconst X13.here hx rfl (hb hby at_229) ?_
    show Steps p.tables e below (T13.setTop (mkF m 230 #[.val (.int p1), .val (.long q2), .second, .val (.long q3), .second, .val (.long q4), .second, .val (.long q5), .second, .val (.int vt), .val (.long tk), .second, .val (.long lp), .second, .val (.long va), .second, .val (.long vb), .second, .val (.long vn), .second, .val (.ref b1), .val (.long ca), .second, .val (.long ca), .second, .val (.long vb), .second, .val (.long vmm), .second] [(.long 1), (.long bl), (.ref b1)])) _
    refine XS.ladd X13.here hx rfl (hb hby at_230) rfl ?_
    show Steps p.tables e below (T13.setTop (mkF m 231 #[.val (.int p1), .val (.long q2), .second, .val (.long q3), .second, .val (.long q4), .second, .val (.long q5), .second, .val (.int vt), .val (.long tk), .second, .val (.long lp), .second, .val (.long va), .second, .val (.long vb), .second, .val (.long vn), .second, .val (.ref b1), .val (.long ca), .second, .val (.long ca), .second, .val (.long vb), .second, .val (.long vmm), .second] [(.long (bl + (1 : Int64))), (.ref b1)])) _
    rw [hbl1]
    show Steps p.tables e below (T13.setTop (mkF m 231 #[.val (.int p1), .val (.long q2), .second, .val (.long q3), .second, .val (.long q4), .second, .val (.long q5), .second, .val (.int vt), .val (.long tk), .second, .val (.long lp), .second, .val (.long va), .second, .val (.long vb), .second, .val (.long vn), .second, .val (.ref b1), .val (.long ca), .second, .val (.long ca), .second, .val (.long vb), .second, .val (.long vmm), .second] [(.long bl1), (.ref b1)])) _
    refine st14.trans ?_
    show Steps p.tables e below (T14.setTop (mkF m 234 #[.val (.int p1), .val (.long q2), .second, .val (.long q3), .second, .val (.long q4), .second, .val (.long q5), .second, .val (.int vt), .val (.long tk), .second, .val (.long lp), .second, .val (.long va), .second, .val (.long vb), .second, .val (.long vn), .second, .val (.ref b1), .val (.long ca), .second, .val (.long ca), .second, .val (.long vb), .second, .val (.long vmm), .second] [(.long (own_ref bl1 vb ca tk lp))])) _
    refine XS.lload X14.here hx rfl (hb hby at_234) rfl ?_
    show Steps p.tables e below (T14.setTop (mkF m 236 #[.val (.int p1), .val (.long q2), .second, .val (.long q3), .second, .val (.long q4), .second, .val (.long q5), .second, .val (.int vt), .val (.long tk), .second, .val (.long lp), .second, .val (.long va), .second, .val (.long vb), .second, .val (.long vn), .second, .val (.ref b1), .val (.long ca), .second, .val (.long ca), .second, .val (.long vb), .second, .val (.long vmm), .second] [(.long vb), (.long (own_ref bl1 vb ca tk lp))])) _
    refine XS.lload X14.here hx rfl (hb hby at_236) rfl ?_
    show Steps p.tables e below (T14.setTop (mkF m 238 #[.val (.int p1), .val (.long q2), .second, .val (.long q3), .second, .val (.long q4), .second, .val (.long q5), .second, .val (.int vt), .val (.long tk), .second, .val (.long lp), .second, .val (.long va), .second, .val (.long vb), .second, .val (.long vn), .second, .val (.ref b1), .val (.long ca), .second, .val (.long ca), .second, .val (.long vb), .second, .val (.long vmm), .second] [(.long lp), (.long vb), (.long (own_ref bl1 vb ca tk lp))])) _
    refine XS.ladd X14.here hx rfl (hb hby at_238) rfl ?_
    show Steps p.tables e below (T14.setTop (mkF m 239 #[.val (.int p1), .val (.long q2), .second, .val (.long q3), .second, .val (.long q4), .second, .val (.long q5), .second, .val (.int vt), .val (.long tk), .second, .val (.long lp), .second, .val (.long va), .second, .val (.long vb), .second, .val (.long vn), .second, .val (.ref b1), .val (.long ca), .second, .val (.long ca), .second, .val (.long vb), .second, .val (.long vmm), .second] [(.long (vb + lp)), (.long (own_ref bl1 vb ca tk lp))])) _
    rw [hbl]
    show Steps p.tables e below (T14.setTop (mkF m 239 #[.val (.int p1), .val (.long q2), .second, .val (.long q3), .second, .val (.long q4), .second, .val (.long q5), .second, .val (.int vt), .val (.long tk), .second, .val (.long lp), .second, .val (.long va), .second, .val (.long vb), .second, .val (.long vn), .second, .val (.ref b1), .val (.long ca), .second, .val (.long ca), .second, .val (.long vb), .second, .val (.long vmm), .second] [(.long bl), (.long (own_ref bl1 vb ca tk lp))])) _
    refine XS.lconst X14.here hx rfl (hb hby at_239) ?_
    show Steps p.tables e below (T14.setTop (mkF m 240 #[.val (.int p1), .val (.long q2), .second, .val (.long q3), .second, .val (.long q4), .second, .val (.long q5), .second, .val (.int vt), .val (.long tk), .second, .val (.long lp), .second, .val (.long va), .second, .val (.long vb), .second, .val (.long vn), .second, .val (.ref b1), .val (.long ca), .second, .val (.long ca), .second, .val (.long vb), .second, .val (.long vmm), .second] [(.long 1), (.long bl), (.long (own_ref bl1 vb ca tk lp))])) _
    refine XS.ladd X14.here hx rfl (hb hby at_240) rfl ?_
    show Steps p.tables e below (T14.setTop (mkF m 241 #[.val (.int p1), .val (.long q2), .second, .val (.long q3), .second, .val (.long q4), .second, .val (.long q5), .second, .val (.int vt), .val (.long tk), .second, .val (.long lp), .second, .val (.long va), .second, .val (.long vb), .second, .val (.long vn), .second, .val (.ref b1), .val (.long ca), .second, .val (.long ca), .second, .val (.long vb), .second, .val (.long vmm), .second] [(.long (bl + (1 : Int64))), (.long (own_ref bl1 vb ca tk lp))])) _
    rw [hbl1]
    show Steps p.tables e below (T14.setTop (mkF m 241 #[.val (.int p1), .val (.long q2), .second, .val (.long q3), .second, .val (.long q4), .second, .val (.long q5), .second, .val (.int vt), .val (.long tk), .second, .val (.long lp), .second, .val (.long va), .second, .val (.long vb), .second, .val (.long vn), .second, .val (.ref b1), .val (.long ca), .second, .val (.long ca), .second, .val (.long vb), .second, .val (.long vmm), .second] [(.long bl1), (.long (own_ref bl1 vb ca tk lp))])) _
    refine XS.lload X14.here hx rfl (hb hby at_241) rfl ?_
    show Steps p.tables e below (T14.setTop (mkF m 243 #[.val (.int p1), .val (.long q2), .second, .val (.long q3), .second, .val (.long q4), .second, .val (.long q5), .second, .val (.int vt), .val (.long tk), .second, .val (.long lp), .second, .val (.long va), .second, .val (.long vb), .second, .val (.long vn), .second, .val (.ref b1), .val (.long ca), .second, .val (.long ca), .second, .val (.long vb), .second, .val (.long vmm), .second] [(.long vb), (.long bl1), (.long (own_ref bl1 vb ca tk lp))])) _
    refine XS.lload X14.here hx rfl (hb hby at_243) rfl ?_
    show Steps p.tables e below (T14.setTop (mkF m 245 #[.val (.int p1), .val (.long q2), .second, .val (.long q3), .second, .val (.long q4), .second, .val (.long q5), .second, .val (.int vt), .val (.long tk), .second, .val (.long lp), .second, .val (.long va), .second, .val (.long vb), .second, .val (.long vn), .second, .val (.ref b1), .val (.long ca), .second, .val (.long ca), .second, .val (.long vb), .second, .val (.long vmm), .second] [(.long ca), (.long vb), (.long bl1), (.long (own_ref bl1 vb ca tk lp))])) _
    refine XS.lload X14.here hx rfl (hb hby at_245) rfl ?_
    show Steps p.tables e below (T14.setTop (mkF m 247 #[.val (.int p1), .val (.long q2), .second, .val (.long q3), .second, .val (.long q4), .second, .val (.long q5), .second, .val (.int vt), .val (.long tk), .second, .val (.long lp), .second, .val (.long va), .second, .val (.long vb), .second, .val (.long vn), .second, .val (.ref b1), .val (.long ca), .second, .val (.long ca), .second, .val (.long vb), .second, .val (.long vmm), .second] [(.long tk), (.long ca), (.long vb), (.long bl1), (.long (own_ref bl1 vb ca tk lp))])) _
    refine XS.lload X14.here hx rfl (hb hby at_247) rfl ?_
    show Steps p.tables e below (T14.setTop (mkF m 249 #[.val (.int p1), .val (.long q2), .second, .val (.long q3), .second, .val (.long q4), .second, .val (.long q5), .second, .val (.int vt), .val (.long tk), .second, .val (.long lp), .second, .val (.long va), .second, .val (.long vb), .second, .val (.long vn), .second, .val (.ref b1), .val (.long ca), .second, .val (.long ca), .second, .val (.long vb), .second, .val (.long vmm), .second] [(.long lp), (.long tk), (.long ca), (.long vb), (.long bl1), (.long (own_ref bl1 vb ca tk lp))])) _
    refine st15 _ ?_
    show Steps p.tables e below (T15.setTop (mkF m 252 #[.val (.int p1), .val (.long q2), .second, .val (.long q3), .second, .val (.long q4), .second, .val (.long q5), .second, .val (.int vt), .val (.long tk), .second, .val (.long lp), .second, .val (.long va), .second, .val (.long vb), .second, .val (.long vn), .second, .val (.ref b1), .val (.long ca), .second, .val (.long ca), .second, .val (.long vb), .second, .val (.long vmm), .second] [(.long (own_ref bl1 vb ca tk lp)), (.long (own_ref bl1 vb ca tk lp))])) _
    refine XS.lcmp X15.here hx rfl (hb hby at_252) rfl ?_
    show Steps p.tables e below (T15.setTop (mkF m 253 #[.val (.int p1), .val (.long q2), .second, .val (.long q3), .second, .val (.long q4), .second, .val (.long q5), .second, .val (.int vt), .val (.long tk), .second, .val (.long lp), .second, .val (.long va), .second, .val (.long vb), .second, .val (.long vn), .second, .val (.ref b1), .val (.long ca), .second, .val (.long ca), .second, .val (.long vb), .second, .val (.long vmm), .second] [(.int (lcmpW (own_ref bl1 vb ca tk lp) (own_ref bl1 vb ca tk lp)))])) _
    rw [own_lcmp0]
    show Steps p.tables e below (T15.setTop (mkF m 253 #[.val (.int p1), .val (.long q2), .second, .val (.long q3), .second, .val (.long q4), .second, .val (.long q5), .second, .val (.int vt), .val (.long tk), .second, .val (.long lp), .second, .val (.long va), .second, .val (.long vb), .second, .val (.long vn), .second, .val (.ref b1), .val (.long ca), .second, .val (.long ca), .second, .val (.long vb), .second, .val (.long vmm), .second] [(.int 0)])) _
    refine XS.ifNo X15.here hx rfl (hb hby at_253) rfl ((if0 _ _).trans (teq (by decide : (0 : Int32) = (0 : Int32))).2) ?_
    show Steps p.tables e below (T15.setTop (mkF m 256 #[.val (.int p1), .val (.long q2), .second, .val (.long q3), .second, .val (.long q4), .second, .val (.long q5), .second, .val (.int vt), .val (.long tk), .second, .val (.long lp), .second, .val (.long va), .second, .val (.long vb), .second, .val (.long vn), .second, .val (.ref b1), .val (.long ca), .second, .val (.long ca), .second, .val (.long vb), .second, .val (.long vmm), .second] [])) _
    refine XS.aload X15.here hx rfl (hb hby at_256) rfl rfl ?_
    show Steps p.tables e below (T15.setTop (mkF m 258 #[.val (.int p1), .val (.long q2), .second, .val (.long q3), .second, .val (.long q4), .second, .val (.long q5), .second, .val (.int vt), .val (.long tk), .second, .val (.long lp), .second, .val (.long va), .second, .val (.long vb), .second, .val (.long vn), .second, .val (.ref b1), .val (.long ca), .second, .val (.long ca), .second, .val (.long vb), .second, .val (.long vmm), .second] [(.ref b1)])) _
    refine XS.lload X15.here hx rfl (hb hby at_258) rfl ?_
    show Steps p.tables e below (T15.setTop (mkF m 260 #[.val (.int p1), .val (.long q2), .second, .val (.long q3), .second, .val (.long q4), .second, .val (.long q5), .second, .val (.int vt), .val (.long tk), .second, .val (.long lp), .second, .val (.long va), .second, .val (.long vb), .second, .val (.long vn), .second, .val (.ref b1), .val (.long ca), .second, .val (.long ca), .second, .val (.long vb), .second, .val (.long vmm), .second] [(.long vmm), (.ref b1)])) _
    refine st16.trans ?_
    show Steps p.tables e below (T16.setTop (mkF m 263 #[.val (.int p1), .val (.long q2), .second, .val (.long q3), .second, .val (.long q4), .second, .val (.long q5), .second, .val (.int vt), .val (.long tk), .second, .val (.long lp), .second, .val (.long va), .second, .val (.long vb), .second, .val (.long vn), .second, .val (.ref b1), .val (.long ca), .second, .val (.long ca), .second, .val (.long vb), .second, .val (.long vmm), .second] [(.long (own_ref vmm vb ca tk lp))])) _
    refine XS.lload X16.here hx rfl (hb hby at_263) rfl ?_
    show Steps p.tables e below (T16.setTop (mkF m 265 #[.val (.int p1), .val (.long q2), .second, .val (.long q3), .second, .val (.long q4), .second, .val (.long q5), .second, .val (.int vt), .val (.long tk), .second, .val (.long lp), .second, .val (.long va), .second, .val (.long vb), .second, .val (.long vn), .second, .val (.ref b1), .val (.long ca), .second, .val (.long ca), .second, .val (.long vb), .second, .val (.long vmm), .second] [(.long vmm), (.long (own_ref vmm vb ca tk lp))])) _
    refine XS.lload X16.here hx rfl (hb hby at_265) rfl ?_
    show Steps p.tables e below (T16.setTop (mkF m 267 #[.val (.int p1), .val (.long q2), .second, .val (.long q3), .second, .val (.long q4), .second, .val (.long q5), .second, .val (.int vt), .val (.long tk), .second, .val (.long lp), .second, .val (.long va), .second, .val (.long vb), .second, .val (.long vn), .second, .val (.ref b1), .val (.long ca), .second, .val (.long ca), .second, .val (.long vb), .second, .val (.long vmm), .second] [(.long vb), (.long vmm), (.long (own_ref vmm vb ca tk lp))])) _
    refine XS.lload X16.here hx rfl (hb hby at_267) rfl ?_
    show Steps p.tables e below (T16.setTop (mkF m 269 #[.val (.int p1), .val (.long q2), .second, .val (.long q3), .second, .val (.long q4), .second, .val (.long q5), .second, .val (.int vt), .val (.long tk), .second, .val (.long lp), .second, .val (.long va), .second, .val (.long vb), .second, .val (.long vn), .second, .val (.ref b1), .val (.long ca), .second, .val (.long ca), .second, .val (.long vb), .second, .val (.long vmm), .second] [(.long ca), (.long vb), (.long vmm), (.long (own_ref vmm vb ca tk lp))])) _
    refine XS.lload X16.here hx rfl (hb hby at_269) rfl ?_
    show Steps p.tables e below (T16.setTop (mkF m 271 #[.val (.int p1), .val (.long q2), .second, .val (.long q3), .second, .val (.long q4), .second, .val (.long q5), .second, .val (.int vt), .val (.long tk), .second, .val (.long lp), .second, .val (.long va), .second, .val (.long vb), .second, .val (.long vn), .second, .val (.ref b1), .val (.long ca), .second, .val (.long ca), .second, .val (.long vb), .second, .val (.long vmm), .second] [(.long tk), (.long ca), (.long vb), (.long vmm), (.long (own_ref vmm vb ca tk lp))])) _
    refine XS.lload X16.here hx rfl (hb hby at_271) rfl ?_
    show Steps p.tables e below (T16.setTop (mkF m 273 #[.val (.int p1), .val (.long q2), .second, .val (.long q3), .second, .val (.long q4), .second, .val (.long q5), .second, .val (.int vt), .val (.long tk), .second, .val (.long lp), .second, .val (.long va), .second, .val (.long vb), .second, .val (.long vn), .second, .val (.ref b1), .val (.long ca), .second, .val (.long ca), .second, .val (.long vb), .second, .val (.long vmm), .second] [(.long lp), (.long tk), (.long ca), (.long vb), (.long vmm), (.long (own_ref vmm vb ca tk lp))])) _
    refine st17 _ ?_
    show Steps p.tables e below (T17.setTop (mkF m 276 #[.val (.int p1), .val (.long q2), .second, .val (.long q3), .second, .val (.long q4), .second, .val (.long q5), .second, .val (.int vt), .val (.long tk), .second, .val (.long lp), .second, .val (.long va), .second, .val (.long vb), .second, .val (.long vn), .second, .val (.ref b1), .val (.long ca), .second, .val (.long ca), .second, .val (.long vb), .second, .val (.long vmm), .second] [(.long (own_ref vmm vb ca tk lp)), (.long (own_ref vmm vb ca tk lp))])) _
    refine XS.lcmp X17.here hx rfl (hb hby at_276) rfl ?_
    show Steps p.tables e below (T17.setTop (mkF m 277 #[.val (.int p1), .val (.long q2), .second, .val (.long q3), .second, .val (.long q4), .second, .val (.long q5), .second, .val (.int vt), .val (.long tk), .second, .val (.long lp), .second, .val (.long va), .second, .val (.long vb), .second, .val (.long vn), .second, .val (.ref b1), .val (.long ca), .second, .val (.long ca), .second, .val (.long vb), .second, .val (.long vmm), .second] [(.int (lcmpW (own_ref vmm vb ca tk lp) (own_ref vmm vb ca tk lp)))])) _
    rw [own_lcmp0]
    show Steps p.tables e below (T17.setTop (mkF m 277 #[.val (.int p1), .val (.long q2), .second, .val (.long q3), .second, .val (.long q4), .second, .val (.long q5), .second, .val (.int vt), .val (.long tk), .second, .val (.long lp), .second, .val (.long va), .second, .val (.long vb), .second, .val (.long vn), .second, .val (.ref b1), .val (.long ca), .second, .val (.long ca), .second, .val (.long vb), .second, .val (.long vmm), .second] [(.int 0)])) _
    refine XS.ifNo X17.here hx rfl (hb hby at_277) rfl ((if0 _ _).trans (teq (by decide : (0 : Int32) = (0 : Int32))).2) ?_
    show Steps p.tables e below (T17.setTop (mkF m 280 #[.val (.int p1), .val (.long q2), .second, .val (.long q3), .second, .val (.long q4), .second, .val (.long q5), .second, .val (.int vt), .val (.long tk), .second, .val (.long lp), .second, .val (.long va), .second, .val (.long vb), .second, .val (.long vn), .second, .val (.ref b1), .val (.long ca), .second, .val (.long ca), .second, .val (.long vb), .second, .val (.long vmm), .second] [])) _
    refine XS.iconst X17.here hx rfl (hb hby at_280) ?_
    show Steps p.tables e below (T17.setTop (mkF m 281 #[.val (.int p1), .val (.long q2), .second, .val (.long q3), .second, .val (.long q4), .second, .val (.long q5), .second, .val (.int vt), .val (.long tk), .second, .val (.long lp), .second, .val (.long va), .second, .val (.long vb), .second, .val (.long vn), .second, .val (.ref b1), .val (.long ca), .second, .val (.long ca), .second, .val (.long vb), .second, .val (.long vmm), .second] [(.int 1)])) _
    refine XS.goto X17.here hx rfl (pc0 := 281) (pc' := 285) rfl (hb hby at_281) (by decide) (by decide) ?_
    show Steps p.tables e below (T17.setTop (mkF m 285 #[.val (.int p1), .val (.long q2), .second, .val (.long q3), .second, .val (.long q4), .second, .val (.long q5), .second, .val (.int vt), .val (.long tk), .second, .val (.long lp), .second, .val (.long va), .second, .val (.long vb), .second, .val (.long vn), .second, .val (.ref b1), .val (.long ca), .second, .val (.long ca), .second, .val (.long vb), .second, .val (.long vmm), .second] [(.int 1)])) _
    exact retN X17 hx (t := .boolean) Bd.returns (by simp) (hb hby at_285) hr
  · show Q0_kgtle Z p1 q2 q3 q4 q5 vt tk lp va vb vn w_MILLISECONDS w_DEFAULTCAPACITY_EMPTY_ELEMENTDATA ca vm1 vmm bm bl bl1 h0 n0 _ T17.heap _
    rw [e17]
    exact ⟨rfl, N17, trivial⟩
def Q19_o1_va_v1 (Z : State) (o1 : Addr) (va : Int64) (q2 : Int64) (lp : Int64) (o2 : Addr) (o3 : Addr) (tk : Int64) (h0 : Heap) (n0 : Nat) (v : Option Value) (h : Heap) (L : List Loc) : Prop := v = none ∧ Fr n0 L ∧ Keep h0 h [o1] ∧ Fld Z h o1 "com/example/epochcast/epochcast/server/SessionLeases" "lastHeartbeat" "J" (.long va) ∧ Fld Z h o1 "com/example/epochcast/epochcast/server/SessionLeases" "lapse" "J" (.long lp) ∧ Exa Z h o1 "com/example/epochcast/epochcast/server/SessionLeases" ∧ Fld Z h o1 "com/example/epochcast/epochcast/server/SessionLeases" "leases" "Ljava/util/Map;" (.ref o2) ∧ Fld Z h o1 "com/example/epochcast/epochcast/server/SessionLeases" "due" "Ljava/util/PriorityQueue;" (.ref o3) ∧ Fld Z h o1 "com/example/epochcast/epochcast/server/SessionLeases" "countingFrom" "J" (.long q2) ∧ Fld Z h o1 "com/example/epochcast/epochcast/server/SessionLeases" "tick" "J" (.long tk)
set_option maxRecDepth 65536 in
set_option maxHeartbeats 40000000 in
theorem rm19_o1_va_v1 (l : Launch) (Z : State) (a0 : Array Value) (hw : ∀ d ∈ tables_1, d.before a0 Z = true) (ws : List Jvm.Cond) (o1 : Addr) (va : Int64) (q2 : Int64) (lp : Int64) (o2 : Addr) (o3 : Addr) (tk : Int64) (h0 : Heap) (n0 : Nat) (Z0 : n0 ≤ h0.size) (F_lastHeartbeat_o1 : Fld Z h0 o1 "com/example/epochcast/epochcast/server/SessionLeases" "lastHeartbeat" "J" (.long q2)) (F_lapse_o1 : Fld Z h0 o1 "com/example/epochcast/epochcast/server/SessionLeases" "lapse" "J" (.long lp)) (hc11 : ¬ ((0 : Int32) < (lcmpW (va - q2) lp))) (E_o1 : Exa Z h0 o1 "com/example/epochcast/epochcast/server/SessionLeases") (g_o1 : n0 ≤ o1) (F_leases_o1 : Fld Z h0 o1 "com/example/epochcast/epochcast/server/SessionLeases" "leases" "Ljava/util/Map;" (.ref o2)) (F_due_o1 : Fld Z h0 o1 "com/example/epochcast/epochcast/server/SessionLeases" "due" "Ljava/util/PriorityQueue;" (.ref o3)) (F_countingFrom_o1 : Fld Z h0 o1 "com/example/epochcast/epochcast/server/SessionLeases" "countingFrom" "J" (.long q2)) (F_tick_o1 : Fld Z h0 o1 "com/example/epochcast/epochcast/server/SessionLeases" "tick" "J" (.long tk)) :
    MetFree l (⟨"com/example/epochcast/epochcast/server/SessionLeases", "heartbeat", "(J)V"⟩ : MethodName) (head1 (Jvm.Cond.code (⟨"com/example/epochcast/epochcast/server/SessionLeases", "heartbeat", "(J)V"⟩ : MethodName) prog_190_method_3_code 3 none :: ws) ({ frames := 0, cells := 0, slots := 0, locals := 0 } : Room)) (fun a U => a = #[(.ref o1), (.long va)] ∧ Z.Warmed39 U.vm ∧ U.heap = h0) (fun _ _ _ _ _ => True) (fun _ U o U' => ∃ v L, o = .returned v ∧ Q19_o1_va_v1 Z o1 va q2 lp o2 o3 tk h0 n0 v U'.heap L ∧ FrameEnd U o U' L ({ frames := 0, cells := 0, slots := 0, locals := 0 } : Room).cells ({ frames := 0, cells := 0, slots := 0, locals := 0 } : Room).slots) := by
  refine MetFree.of_bodySF (plainFor_of_name pn_19) hisR ?_
  intro p e s m args below meth c s₁ Bd hml0 hP hK
  obtain ⟨rfl, hZ, hh⟩ := hP
  have hx := Bd.exec
  have hby := Bd.bytes
  have hml : c.maxLocals = 3 := hml0
  have hown : s.vm.findClass "com/example/epochcast/epochcast/server/SessionLeases" = some m.cls := findClass_of_methodNamed Bd.named
  have hnm := (name_of_methodNamed Bd.named Bd.method).1
  have X0 : Stand p l e ({ frames := 0, cells := 0, slots := 0, locals := 0 } : Room) s m #[(.ref o1), (.long va)] below meth c s₁ [] 0 0 := Stand.of_body Bd
  have e0 : s₁.heap = h0 := by rw [← hh, Bd.state]; rfl
  have N0 := Fr.nil n0
  have pre0 : ∀ t, Steps p.tables e below (s₁.setTop (mkF m 0 #[.val (.ref o1), .val (.long va), .second] [])) t → Steps p.tables e below (s₁.setTop (entryFrame m #[(.ref o1), (.long va)] 3)) t := fun t k => castTop (by first | (simp [entryFrame, mkF, argsToLocals, Value.category]; done) | rfl) k
  obtain ⟨T1, X1, e1, st1⟩ := getF X0 hx hZ hown (host := "") (Or.inl (hw _ (List.mem_of_getElem? (i := 128) rfl))) Via.refl e0 F_lastHeartbeat_o1 (g := (mkF m 2 #[.val (.ref o1), .val (.long va), .second] [(.ref o1), (.long va)])) rfl rfl (hb hby d19_2)
  obtain ⟨T2, X2, e2, st2⟩ := getF X1 hx hZ hown (host := "") (Or.inl (hw _ (List.mem_of_getElem? (i := 75) rfl))) Via.refl e1 F_lapse_o1 (g := (mkF m 7 #[.val (.ref o1), .val (.long va), .second] [(.ref o1), (.long (va - q2))])) rfl rfl (hb hby d19_7)
  obtain ⟨T3, h3, X3, e3, W3, st3⟩ := putF X2 hx hZ hown (host := "") (Or.inl (hw _ (List.mem_of_getElem? (i := 128) rfl))) Via.refl e2 F_lastHeartbeat_o1 E_o1 (Or.inl (hw _ (List.mem_of_getElem? (i := 129) rfl))) (hw _ (List.mem_of_getElem? (i := 4) rfl)) (ty := .long) (by decide) rfl rfl (g := (mkF m 26 #[.val (.ref o1), .val (.long va), .second] [(.long va), (.ref o1)])) rfl rfl (hb hby d19_26)
  have Fw3 := F_lastHeartbeat_o1.same W3
  have N3 := Fr.snoc X3 N0 g_o1
  have K3 : Keep h0 h3 [o1] := (Keep.refl h0 [o1]).wr W3 (Or.inl (List.mem_of_getElem? (i := 0) rfl))
  obtain ⟨fs, hr, hrun, hended, hW, hsame⟩ := X3.leave (v := none) (fun _ => rfl)
  refine ⟨_, _, pre0 _ ?_, hrun, hended, _, _, rfl, ?_, ⟨_, rfl⟩, hW, hsame.mono (by decide) (by decide)⟩
  · show Steps p.tables e below (s₁.setTop (mkF m 0 #[.val (.ref o1), .val (.long va), .second] [])) _
    refine XS.lloadN X0.here hx rfl (hb hby d19_0) rfl ?_
    show Steps p.tables e below (s₁.setTop (mkF m 1 #[.val (.ref o1), .val (.long va), .second] [(.long va)])) _
    refine XS.aloadN X0.here hx rfl (hb hby d19_1) rfl rfl ?_
    show Steps p.tables e below (s₁.setTop (mkF m 2 #[.val (.ref o1), .val (.long va), .second] [(.ref o1), (.long va)])) _
    refine st1 _ ?_
    show Steps p.tables e below (T1.setTop (mkF m 5 #[.val (.ref o1), .val (.long va), .second] [(.long q2), (.long va)])) _
    refine XS.lsub X1.here hx rfl (hb hby d19_5) rfl ?_
    show Steps p.tables e below (T1.setTop (mkF m 6 #[.val (.ref o1), .val (.long va), .second] [(.long (va - q2))])) _
    refine XS.aloadN X1.here hx rfl (hb hby d19_6) rfl rfl ?_
    show Steps p.tables e below (T1.setTop (mkF m 7 #[.val (.ref o1), .val (.long va), .second] [(.ref o1), (.long (va - q2))])) _
    refine st2 _ ?_
    show Steps p.tables e below (T2.setTop (mkF m 10 #[.val (.ref o1), .val (.long va), .second] [(.long lp), (.long (va - q2))])) _
    refine XS.lcmp X2.here hx rfl (hb hby d19_10) rfl ?_
    show Steps p.tables e below (T2.setTop (mkF m 11 #[.val (.ref o1), .val (.long va), .second] [(.int (lcmpW (va - q2) lp))])) _
    refine XS.ifYes X2.here hx rfl (pc0 := 11) (pc' := 24) rfl (hb hby d19_11) rfl ((if0 _ _).trans (flt hc11).2.2.2) (by decide) (by decide) ?_
    show Steps p.tables e below (T2.setTop (mkF m 24 #[.val (.ref o1), .val (.long va), .second] [])) _
    refine XS.aloadN X2.here hx rfl (hb hby d19_24) rfl rfl ?_
    show Steps p.tables e below (T2.setTop (mkF m 25 #[.val (.ref o1), .val (.long va), .second] [(.ref o1)])) _
    refine XS.lloadN X2.here hx rfl (hb hby d19_25) rfl ?_
    show Steps p.tables e below (T2.setTop (mkF m 26 #[.val (.ref o1), .val (.long va), .second] [(.long va), (.ref o1)])) _
    refine st3 _ ?_
    show Steps p.tables e below (T3.setTop (mkF m 29 #[.val (.ref o1), .val (.long va), .second] [])) _
    exact X3.returnOut hx Bd.returns (hb hby d19_29) hr
  · show Q19_o1_va_v1 Z o1 va q2 lp o2 o3 tk h0 n0 _ T3.heap _
    rw [e3]
    exact ⟨rfl, N3, K3, Fw3, (F_lapse_o1.other W3 (Or.inr (slot_ne (Or.inr (hw _ (List.mem_of_getElem? (i := 76) rfl))) (Or.inl (hw _ (List.mem_of_getElem? (i := 129) rfl))) (by decide) (t := .long) (t' := .long) (by decide) (by decide)))), (E_o1.wr W3), (F_leases_o1.other W3 (Or.inr (slot_ne (Or.inr (hw _ (List.mem_of_getElem? (i := 29) rfl))) (Or.inl (hw _ (List.mem_of_getElem? (i := 129) rfl))) (by decide) (t := (.object "java/util/Map")) (t' := .long) (by decide) (by decide)))), (F_due_o1.other W3 (Or.inr (slot_ne (Or.inr (hw _ (List.mem_of_getElem? (i := 60) rfl))) (Or.inl (hw _ (List.mem_of_getElem? (i := 129) rfl))) (by decide) (t := (.object "java/util/PriorityQueue")) (t' := .long) (by decide) (by decide)))), (F_countingFrom_o1.other W3 (Or.inr (slot_ne (Or.inl (hw _ (List.mem_of_getElem? (i := 131) rfl))) (Or.inl (hw _ (List.mem_of_getElem? (i := 129) rfl))) (by decide) (t := .long) (t' := .long) (by decide) (by decide)))), (F_tick_o1.other W3 (Or.inr (slot_ne (Or.inr (hw _ (List.mem_of_getElem? (i := 73) rfl))) (Or.inl (hw _ (List.mem_of_getElem? (i := 129) rfl))) (by decide) (t := .long) (t' := .long) (by decide) (by decide))))⟩
def Q19_o1_vb_v2 (Z : State) (o1 : Addr) (vb : Int64) (va : Int64) (lp : Int64) (tk : Int64) (cb : Int64) (q2 : Int64) (o2 : Addr) (o3 : Addr) (h0 : Heap) (n0 : Nat) (v : Option Value) (h : Heap) (L : List Loc) : Prop := v = none ∧ Fr n0 L ∧ Keep h0 h [o1] ∧ Fld Z h o1 "com/example/epochcast/epochcast/server/SessionLeases" "lastHeartbeat" "J" (.long vb) ∧ Fld Z h o1 "com/example/epochcast/epochcast/server/SessionLeases" "lapse" "J" (.long lp) ∧ Fld Z h o1 "com/example/epochcast/epochcast/server/SessionLeases" "tick" "J" (.long tk) ∧ Exa Z h o1 "com/example/epochcast/epochcast/server/SessionLeases" ∧ Fld Z h o1 "com/example/epochcast/epochcast/server/SessionLeases" "countingFrom" "J" (.long cb) ∧ Fld Z h o1 "com/example/epochcast/epochcast/server/SessionLeases" "leases" "Ljava/util/Map;" (.ref o2) ∧ Fld Z h o1 "com/example/epochcast/epochcast/server/SessionLeases" "due" "Ljava/util/PriorityQueue;" (.ref o3)
set_option maxRecDepth 65536 in
set_option maxHeartbeats 40000000 in
theorem rm19_o1_vb_v2 (l : Launch) (Z : State) (a0 : Array Value) (hw : ∀ d ∈ tables_1, d.before a0 Z = true) (ws : List Jvm.Cond) (o1 : Addr) (vb : Int64) (va : Int64) (lp : Int64) (tk : Int64) (cb : Int64) (q2 : Int64) (o2 : Addr) (o3 : Addr) (h0 : Heap) (n0 : Nat) (Z0 : n0 ≤ h0.size) (F_lastHeartbeat_o1 : Fld Z h0 o1 "com/example/epochcast/epochcast/server/SessionLeases" "lastHeartbeat" "J" (.long va)) (F_lapse_o1 : Fld Z h0 o1 "com/example/epochcast/epochcast/server/SessionLeases" "lapse" "J" (.long lp)) (hc11 : (0 : Int32) < (lcmpW (vb - va) lp)) (F_tick_o1 : Fld Z h0 o1 "com/example/epochcast/epochcast/server/SessionLeases" "tick" "J" (.long tk)) (hcb : (vb + tk) = cb) (E_o1 : Exa Z h0 o1 "com/example/epochcast/epochcast/server/SessionLeases") (F_countingFrom_o1 : Fld Z h0 o1 "com/example/epochcast/epochcast/server/SessionLeases" "countingFrom" "J" (.long q2)) (g_o1 : n0 ≤ o1) (F_leases_o1 : Fld Z h0 o1 "com/example/epochcast/epochcast/server/SessionLeases" "leases" "Ljava/util/Map;" (.ref o2)) (F_due_o1 : Fld Z h0 o1 "com/example/epochcast/epochcast/server/SessionLeases" "due" "Ljava/util/PriorityQueue;" (.ref o3)) :
    MetFree l (⟨"com/example/epochcast/epochcast/server/SessionLeases", "heartbeat", "(J)V"⟩ : MethodName) (head1 (Jvm.Cond.code (⟨"com/example/epochcast/epochcast/server/SessionLeases", "heartbeat", "(J)V"⟩ : MethodName) prog_190_method_3_code 3 none :: ws) ({ frames := 0, cells := 0, slots := 0, locals := 0 } : Room)) (fun a U => a = #[(.ref o1), (.long vb)] ∧ Z.Warmed39 U.vm ∧ U.heap = h0) (fun _ _ _ _ _ => True) (fun _ U o U' => ∃ v L, o = .returned v ∧ Q19_o1_vb_v2 Z o1 vb va lp tk cb q2 o2 o3 h0 n0 v U'.heap L ∧ FrameEnd U o U' L ({ frames := 0, cells := 0, slots := 0, locals := 0 } : Room).cells ({ frames := 0, cells := 0, slots := 0, locals := 0 } : Room).slots) := by
  refine MetFree.of_bodySF (plainFor_of_name pn_19) hisR ?_
  intro p e s m args below meth c s₁ Bd hml0 hP hK
  obtain ⟨rfl, hZ, hh⟩ := hP
  have hx := Bd.exec
  have hby := Bd.bytes
  have hml : c.maxLocals = 3 := hml0
  have hown : s.vm.findClass "com/example/epochcast/epochcast/server/SessionLeases" = some m.cls := findClass_of_methodNamed Bd.named
  have hnm := (name_of_methodNamed Bd.named Bd.method).1
  have X0 : Stand p l e ({ frames := 0, cells := 0, slots := 0, locals := 0 } : Room) s m #[(.ref o1), (.long vb)] below meth c s₁ [] 0 0 := Stand.of_body Bd
  have e0 : s₁.heap = h0 := by rw [← hh, Bd.state]; rfl
  have N0 := Fr.nil n0
  have pre0 : ∀ t, Steps p.tables e below (s₁.setTop (mkF m 0 #[.val (.ref o1), .val (.long vb), .second] [])) t → Steps p.tables e below (s₁.setTop (entryFrame m #[(.ref o1), (.long vb)] 3)) t := fun t k => castTop (by first | (simp [entryFrame, mkF, argsToLocals, Value.category]; done) | rfl) k
  obtain ⟨T1, X1, e1, st1⟩ := getF X0 hx hZ hown (host := "") (Or.inl (hw _ (List.mem_of_getElem? (i := 128) rfl))) Via.refl e0 F_lastHeartbeat_o1 (g := (mkF m 2 #[.val (.ref o1), .val (.long vb), .second] [(.ref o1), (.long vb)])) rfl rfl (hb hby d19_2)
  obtain ⟨T2, X2, e2, st2⟩ := getF X1 hx hZ hown (host := "") (Or.inl (hw _ (List.mem_of_getElem? (i := 75) rfl))) Via.refl e1 F_lapse_o1 (g := (mkF m 7 #[.val (.ref o1), .val (.long vb), .second] [(.ref o1), (.long (vb - va))])) rfl rfl (hb hby d19_7)
  obtain ⟨T3, X3, e3, st3⟩ := getF X2 hx hZ hown (host := "") (Or.inl (hw _ (List.mem_of_getElem? (i := 72) rfl))) Via.refl e2 F_tick_o1 (g := (mkF m 17 #[.val (.ref o1), .val (.long vb), .second] [(.ref o1), (.long vb), (.ref o1)])) rfl rfl (hb hby d19_17)
  obtain ⟨T4, h4, X4, e4, W4, st4⟩ := putF X3 hx hZ hown (host := "") (Or.inl (hw _ (List.mem_of_getElem? (i := 130) rfl))) Via.refl e3 F_countingFrom_o1 E_o1 (Or.inl (hw _ (List.mem_of_getElem? (i := 131) rfl))) (hw _ (List.mem_of_getElem? (i := 4) rfl)) (ty := .long) (by decide) rfl rfl (g := (mkF m 21 #[.val (.ref o1), .val (.long vb), .second] [(.long cb), (.ref o1)])) rfl rfl (hb hby d19_21)
  have Fw4 := F_countingFrom_o1.same W4
  have N4 := Fr.snoc X4 N0 g_o1
  have K4 : Keep h0 h4 [o1] := (Keep.refl h0 [o1]).wr W4 (Or.inl (List.mem_of_getElem? (i := 0) rfl))
  obtain ⟨T5, h5, X5, e5, W5, st5⟩ := putF X4 hx hZ hown (host := "") (Or.inl (hw _ (List.mem_of_getElem? (i := 128) rfl))) Via.refl e4 (F_lastHeartbeat_o1.other W4 (Or.inr (slot_ne (Or.inl (hw _ (List.mem_of_getElem? (i := 129) rfl))) (Or.inl (hw _ (List.mem_of_getElem? (i := 131) rfl))) (by decide) (t := .long) (t' := .long) (by decide) (by decide)))) (E_o1.wr W4) (Or.inl (hw _ (List.mem_of_getElem? (i := 129) rfl))) (hw _ (List.mem_of_getElem? (i := 4) rfl)) (ty := .long) (by decide) rfl rfl (g := (mkF m 26 #[.val (.ref o1), .val (.long vb), .second] [(.long vb), (.ref o1)])) rfl rfl (hb hby d19_26)
  have Fw5 := (F_lastHeartbeat_o1.other W4 (Or.inr (slot_ne (Or.inl (hw _ (List.mem_of_getElem? (i := 129) rfl))) (Or.inl (hw _ (List.mem_of_getElem? (i := 131) rfl))) (by decide) (t := .long) (t' := .long) (by decide) (by decide)))).same W5
  have N5 := Fr.snoc X5 N4 g_o1
  have K5 : Keep h0 h5 [o1] := K4.wr W5 (Or.inl (List.mem_of_getElem? (i := 0) rfl))
  obtain ⟨fs, hr, hrun, hended, hW, hsame⟩ := X5.leave (v := none) (fun _ => rfl)
  refine ⟨_, _, pre0 _ ?_, hrun, hended, _, _, rfl, ?_, ⟨_, rfl⟩, hW, hsame.mono (by decide) (by decide)⟩
  · show Steps p.tables e below (s₁.setTop (mkF m 0 #[.val (.ref o1), .val (.long vb), .second] [])) _
    refine XS.lloadN X0.here hx rfl (hb hby d19_0) rfl ?_
    show Steps p.tables e below (s₁.setTop (mkF m 1 #[.val (.ref o1), .val (.long vb), .second] [(.long vb)])) _
    refine XS.aloadN X0.here hx rfl (hb hby d19_1) rfl rfl ?_
    show Steps p.tables e below (s₁.setTop (mkF m 2 #[.val (.ref o1), .val (.long vb), .second] [(.ref o1), (.long vb)])) _
    refine st1 _ ?_
    show Steps p.tables e below (T1.setTop (mkF m 5 #[.val (.ref o1), .val (.long vb), .second] [(.long va), (.long vb)])) _
    refine XS.lsub X1.here hx rfl (hb hby d19_5) rfl ?_
    show Steps p.tables e below (T1.setTop (mkF m 6 #[.val (.ref o1), .val (.long vb), .second] [(.long (vb - va))])) _
    refine XS.aloadN X1.here hx rfl (hb hby d19_6) rfl rfl ?_
    show Steps p.tables e below (T1.setTop (mkF m 7 #[.val (.ref o1), .val (.long vb), .second] [(.ref o1), (.long (vb - va))])) _
    refine st2 _ ?_
    show Steps p.tables e below (T2.setTop (mkF m 10 #[.val (.ref o1), .val (.long vb), .second] [(.long lp), (.long (vb - va))])) _
    refine XS.lcmp X2.here hx rfl (hb hby d19_10) rfl ?_
    show Steps p.tables e below (T2.setTop (mkF m 11 #[.val (.ref o1), .val (.long vb), .second] [(.int (lcmpW (vb - va) lp))])) _
    refine XS.ifNo X2.here hx rfl (hb hby d19_11) rfl ((if0 _ _).trans (tlt hc11).2.2.2) ?_
    show Steps p.tables e below (T2.setTop (mkF m 14 #[.val (.ref o1), .val (.long vb), .second] [])) _
    refine XS.aloadN X2.here hx rfl (hb hby d19_14) rfl rfl ?_
    show Steps p.tables e below (T2.setTop (mkF m 15 #[.val (.ref o1), .val (.long vb), .second] [(.ref o1)])) _
    refine XS.lloadN X2.here hx rfl (hb hby d19_15) rfl ?_
    show Steps p.tables e below (T2.setTop (mkF m 16 #[.val (.ref o1), .val (.long vb), .second] [(.long vb), (.ref o1)])) _
    refine XS.aloadN X2.here hx rfl (hb hby d19_16) rfl rfl ?_
    show Steps p.tables e below (T2.setTop (mkF m 17 #[.val (.ref o1), .val (.long vb), .second] [(.ref o1), (.long vb), (.ref o1)])) _
    refine st3 _ ?_
    show Steps p.tables e below (T3.setTop (mkF m 20 #[.val (.ref o1), .val (.long vb), .second] [(.long tk), (.long vb), (.ref o1)])) _
    refine XS.ladd X3.here hx rfl (hb hby d19_20) rfl ?_
    show Steps p.tables e below (T3.setTop (mkF m 21 #[.val (.ref o1), .val (.long vb), .second] [(.long (vb + tk)), (.ref o1)])) _
    rw [hcb]
    show Steps p.tables e below (T3.setTop (mkF m 21 #[.val (.ref o1), .val (.long vb), .second] [(.long cb), (.ref o1)])) _
    refine st4 _ ?_
    show Steps p.tables e below (T4.setTop (mkF m 24 #[.val (.ref o1), .val (.long vb), .second] [])) _
    refine XS.aloadN X4.here hx rfl (hb hby d19_24) rfl rfl ?_
    show Steps p.tables e below (T4.setTop (mkF m 25 #[.val (.ref o1), .val (.long vb), .second] [(.ref o1)])) _
    refine XS.lloadN X4.here hx rfl (hb hby d19_25) rfl ?_
    show Steps p.tables e below (T4.setTop (mkF m 26 #[.val (.ref o1), .val (.long vb), .second] [(.long vb), (.ref o1)])) _
    refine st5 _ ?_
    show Steps p.tables e below (T5.setTop (mkF m 29 #[.val (.ref o1), .val (.long vb), .second] [])) _
    exact X5.returnOut hx Bd.returns (hb hby d19_29) hr
  · show Q19_o1_vb_v2 Z o1 vb va lp tk cb q2 o2 o3 h0 n0 _ T5.heap _
    rw [e5]
    exact ⟨rfl, N5, K5, Fw5, ((F_lapse_o1.other W4 (Or.inr (slot_ne (Or.inr (hw _ (List.mem_of_getElem? (i := 76) rfl))) (Or.inl (hw _ (List.mem_of_getElem? (i := 131) rfl))) (by decide) (t := .long) (t' := .long) (by decide) (by decide)))).other W5 (Or.inr (slot_ne (Or.inr (hw _ (List.mem_of_getElem? (i := 76) rfl))) (Or.inl (hw _ (List.mem_of_getElem? (i := 129) rfl))) (by decide) (t := .long) (t' := .long) (by decide) (by decide)))), ((F_tick_o1.other W4 (Or.inr (slot_ne (Or.inr (hw _ (List.mem_of_getElem? (i := 73) rfl))) (Or.inl (hw _ (List.mem_of_getElem? (i := 131) rfl))) (by decide) (t := .long) (t' := .long) (by decide) (by decide)))).other W5 (Or.inr (slot_ne (Or.inr (hw _ (List.mem_of_getElem? (i := 73) rfl))) (Or.inl (hw _ (List.mem_of_getElem? (i := 129) rfl))) (by decide) (t := .long) (t' := .long) (by decide) (by decide)))), ((E_o1.wr W4).wr W5), (Fw4.other W5 (Or.inr (slot_ne (Or.inl (hw _ (List.mem_of_getElem? (i := 131) rfl))) (Or.inl (hw _ (List.mem_of_getElem? (i := 129) rfl))) (by decide) (t := .long) (t' := .long) (by decide) (by decide)))), ((F_leases_o1.other W4 (Or.inr (slot_ne (Or.inr (hw _ (List.mem_of_getElem? (i := 29) rfl))) (Or.inl (hw _ (List.mem_of_getElem? (i := 131) rfl))) (by decide) (t := (.object "java/util/Map")) (t' := .long) (by decide) (by decide)))).other W5 (Or.inr (slot_ne (Or.inr (hw _ (List.mem_of_getElem? (i := 29) rfl))) (Or.inl (hw _ (List.mem_of_getElem? (i := 129) rfl))) (by decide) (t := (.object "java/util/Map")) (t' := .long) (by decide) (by decide)))), ((F_due_o1.other W4 (Or.inr (slot_ne (Or.inr (hw _ (List.mem_of_getElem? (i := 60) rfl))) (Or.inl (hw _ (List.mem_of_getElem? (i := 131) rfl))) (by decide) (t := (.object "java/util/PriorityQueue")) (t' := .long) (by decide) (by decide)))).other W5 (Or.inr (slot_ne (Or.inr (hw _ (List.mem_of_getElem? (i := 60) rfl))) (Or.inl (hw _ (List.mem_of_getElem? (i := 129) rfl))) (by decide) (t := (.object "java/util/PriorityQueue")) (t' := .long) (by decide) (by decide))))⟩
def Q0_klegt (Z : State) (p1 : Int32) (q2 : Int64) (q3 : Int64) (q4 : Int64) (q5 : Int64) (vt : Int32) (tk : Int64) (lp : Int64) (va : Int64) (vb : Int64) (vn : Int64) (w_MILLISECONDS : Addr) (w_DEFAULTCAPACITY_EMPTY_ELEMENTDATA : Addr) (cb : Int64) (vm1 : Int64) (vmm : Int64) (bm : Int64) (bl : Int64) (bl1 : Int64) (h0 : Heap) (n0 : Nat) (v : Option Value) (h : Heap) (L : List Loc) : Prop := v = some (.int 1) ∧ Fr n0 L ∧ True
set_option maxRecDepth 65536 in
set_option maxHeartbeats 40000000 in
theorem rm0_klegt (l : Launch) (Z : State) (a0 : Array Value) (hw : ∀ d ∈ tables_1, d.before a0 Z = true) (ws : List Jvm.Cond) (p1 : Int32) (q2 : Int64) (q3 : Int64) (q4 : Int64) (q5 : Int64) (vt : Int32) (tk : Int64) (lp : Int64) (va : Int64) (vb : Int64) (vn : Int64) (w_MILLISECONDS : Addr) (w_DEFAULTCAPACITY_EMPTY_ELEMENTDATA : Addr) (cb : Int64) (vm1 : Int64) (vmm : Int64) (bm : Int64) (bl : Int64) (bl1 : Int64) (h0 : Heap) (n0 : Nat) (Z0 : n0 ≤ h0.size) (ht : (p1 &&& (2147483647 : Int32)) = vt) (htk : ((vt.toInt64) * (1000000 : Int64)) = tk) (hlp : (tk + (tk / (4 : Int64))) = lp) (hva : (q2 + q3) = va) (hvb : (va + q4) = vb) (hvn : (vb + q5) = vn) (S_MILLISECONDS : Sta Z h0 "java/util/concurrent/TimeUnit" "MILLISECONDS" "Ljava/util/concurrent/TimeUnit;" (.ref w_MILLISECONDS)) (F_scale_w_MILLISECONDS : Fld Z h0 w_MILLISECONDS "java/util/concurrent/TimeUnit" "scale" "J" (.long 1000000)) (F_maxNanos_w_MILLISECONDS : Fld Z h0 w_MILLISECONDS "java/util/concurrent/TimeUnit" "maxNanos" "J" (.long 9223372036854)) (hc22 : ¬ ((0 : Int32) < (lcmpW (vt.toInt64) (9223372036854 : Int64)))) (hc34 : ¬ ((lcmpW (vt.toInt64) (-9223372036854 : Int64)) < (0 : Int32))) (E_w_MILLISECONDS : Exa Z h0 w_MILLISECONDS "java/util/concurrent/TimeUnit") (S_DEFAULTCAPACITY_EMPTY_ELEMENTDATA : Sta Z h0 "java/util/ArrayList" "DEFAULTCAPACITY_EMPTY_ELEMENTDATA" "[Ljava/lang/Object;" (.ref w_DEFAULTCAPACITY_EMPTY_ELEMENTDATA)) (hc11 : ¬ ((0 : Int32) < (lcmpW (va - q2) lp))) (hc11_o1_vb_v2 : (0 : Int32) < (lcmpW (vb - va) lp)) (hcb : (vb + tk) = cb) (hc90 : ¬ ((0 : Int32) < (lcmpW (va - q2) lp))) (hc112 : (0 : Int32) < (lcmpW (vb - va) lp)) (hm1 : (cb - tk) = vm1) (hm : (vm1 - (1 : Int64)) = vmm) (hbm : (vb - (1 : Int64)) = bm) (hbl : (vb + lp) = bl) (hbl1 : (bl + (1 : Int64)) = bl1) :
    MetFree l x (head1 (Jvm.Cond.code x code maxLocals ret :: ws) room_1) (fun a U => a = #[(.int p1), (.long q2), (.long q3), (.long q4), (.long q5)] ∧ Z.Warmed39 U.vm ∧ U.heap = h0) (fun _ _ _ _ _ => True) (fun _ U o U' => ∃ v L, o = .returned v ∧ Q0_klegt Z p1 q2 q3 q4 q5 vt tk lp va vb vn w_MILLISECONDS w_DEFAULTCAPACITY_EMPTY_ELEMENTDATA cb vm1 vmm bm bl bl1 h0 n0 v U'.heap L ∧ FrameEnd U o U' L room_1.cells room_1.slots) := by
  refine MetFree.of_bodySF (plainFor_of_name pn_0) hisR ?_
  intro p e s m args below meth c s₁ Bd hml0 hP hK
  obtain ⟨rfl, hZ, hh⟩ := hP
  have hx := Bd.exec
  have hby := Bd.bytes
  have hml : c.maxLocals = 29 := hml0
  have hown : s.vm.findClass "com/example/epochcast/epochcast/server/SessionLeasesHeartbeatPinLaw" = some m.cls := findClass_of_methodNamed Bd.named
  have hnm := (name_of_methodNamed Bd.named Bd.method).1
  have X0 : Stand p l e room_1 s m #[(.int p1), (.long q2), (.long q3), (.long q4), (.long q5)] below meth c s₁ [] 0 0 := Stand.of_body Bd
  have e0 : s₁.heap = h0 := by rw [← hh, Bd.state]; rfl
  have N0 := Fr.nil n0
  have pre0 : ∀ t, Steps p.tables e below (s₁.setTop (mkF m 0 #[.val (.int p1), .val (.long q2), .second, .val (.long q3), .second, .val (.long q4), .second, .val (.long q5), .second, .unset, .unset, .unset, .unset, .unset, .unset, .unset, .unset, .unset, .unset, .unset, .unset, .unset, .unset, .unset, .unset, .unset, .unset, .unset, .unset] [])) t → Steps p.tables e below (s₁.setTop (entryFrame m #[(.int p1), (.long q2), (.long q3), (.long q4), (.long q5)] maxLocals)) t := fun t k => castTop (by first | (simp [entryFrame, mkF, argsToLocals, Value.category, maxLocals]; done) | rfl) k
  obtain ⟨T1, h1, X1, e1, E1, A1, D1, -, st1⟩ := newO X0 hx hZ hown (hw _ (List.mem_of_getElem? (i := 3) rfl)) (hw _ (List.mem_of_getElem? (i := 4) rfl)) (hw _ (List.mem_of_getElem? (i := 5) rfl)) e0 (g := (mkF m 45 #[.val (.int p1), .val (.long q2), .second, .val (.long q3), .second, .val (.long q4), .second, .val (.long q5), .second, .val (.int vt), .val (.long tk), .second, .val (.long lp), .second, .val (.long va), .second, .val (.long vb), .second, .val (.long vn), .second, .unset, .unset, .unset, .unset, .unset, .unset, .unset, .unset, .unset] [])) rfl (hb hby at_45) (by decide) (by decide)
  obtain ⟨b1, g1⟩ : ∃ z, z = h0.size := ⟨_, rfl⟩
  have s_b1 : h0.size ≤ b1 := Nat.le_of_eq g1.symm
  have g_b1 : n0 ≤ b1 := Nat.le_trans Z0 s_b1
  have sz_b1 : h0.size ≤ b1 := s_b1
  rw [← g1] at A1 D1 st1
  have K1 : Keep h0 h1 [] := (Keep.refl h0 []).ext E1
  have F_leases_b1 : Fld Z h1 b1 "com/example/epochcast/epochcast/server/SessionLeases" "leases" "Ljava/util/Map;" .null := D1 (Or.inr (hw _ (List.mem_of_getElem? (i := 29) rfl))) (ty := (.object "java/util/Map")) (by decide)
  have F_due_b1 : Fld Z h1 b1 "com/example/epochcast/epochcast/server/SessionLeases" "due" "Ljava/util/PriorityQueue;" .null := D1 (Or.inr (hw _ (List.mem_of_getElem? (i := 60) rfl))) (ty := (.object "java/util/PriorityQueue")) (by decide)
  have F_tick_b1 : Fld Z h1 b1 "com/example/epochcast/epochcast/server/SessionLeases" "tick" "J" (.long 0) := D1 (Or.inr (hw _ (List.mem_of_getElem? (i := 73) rfl))) (ty := .long) (by decide)
  have F_lapse_b1 : Fld Z h1 b1 "com/example/epochcast/epochcast/server/SessionLeases" "lapse" "J" (.long 0) := D1 (Or.inr (hw _ (List.mem_of_getElem? (i := 76) rfl))) (ty := .long) (by decide)
  have F_lastHeartbeat_b1 : Fld Z h1 b1 "com/example/epochcast/epochcast/server/SessionLeases" "lastHeartbeat" "J" (.long 0) := D1 (Or.inl (hw _ (List.mem_of_getElem? (i := 129) rfl))) (ty := .long) (by decide)
  have F_countingFrom_b1 : Fld Z h1 b1 "com/example/epochcast/epochcast/server/SessionLeases" "countingFrom" "J" (.long 0) := D1 (Or.inl (hw _ (List.mem_of_getElem? (i := 131) rfl))) (ty := .long) (by decide)
  obtain ⟨_, _, ⟨T2, L2, k2, n2⟩, -, X2, ⟨Lc2, hQ2, l2, y2, z2⟩, st2⟩ := X1.specialBack hx (y := (⟨"com/example/epochcast/epochcast/server/SessionLeases", "<init>", "(I)V"⟩ : MethodName)) rfl hown (mvT hZ (hw _ (List.mem_of_getElem? (i := 6) rfl))) (mvT hZ (hw _ (List.mem_of_getElem? (i := 7) rfl))) (mvT hZ (hw _ (List.mem_of_getElem? (i := 8) rfl))) (by decide) (backOf (W := 1) (rm1_o1_vt l Z a0 hw [] b1 vt w_MILLISECONDS tk lp h1 n0 (Nat.le_trans Z0 K1.1) A1 F_leases_b1 g_b1 F_due_b1 (own_sta_keep S_MILLISECONDS K1) (F_scale_w_MILLISECONDS.keep K1 nin0) (Ne.symm (Nat.ne_of_lt (Nat.lt_of_lt_of_le (F_scale_w_MILLISECONDS).lt sz_b1))) (F_maxNanos_w_MILLISECONDS.keep K1 nin0) hc22 hc34 (E_w_MILLISECONDS.keep K1) htk F_tick_b1 hlp F_lapse_b1 F_lastHeartbeat_b1 F_countingFrom_b1) hZ (hw _ (List.mem_of_getElem? (i := 8) rfl)) (hw _ (List.mem_of_getElem? (i := 5) rfl)) (by decide) (by decide)) (g := (mkF m 51 #[.val (.int p1), .val (.long q2), .second, .val (.long q3), .second, .val (.long q4), .second, .val (.long q5), .second, .val (.int vt), .val (.long tk), .second, .val (.long lp), .second, .val (.long va), .second, .val (.long vb), .second, .val (.long vn), .second, .unset, .unset, .unset, .unset, .unset, .unset, .unset, .unset, .unset] [(.int vt), (.ref b1), (.ref b1)])) rfl (by rw [hml]; rfl) (Steps.refl _) (a := b1) (argsL := [(.int vt)]) (rest := [(.ref b1)]) (lenOf pd__I_V rfl) rfl (by show 2 * 0 + _ ≤ _; exact Nat.le_of_eq rfl) (hb hby at_51) (fun _ _ => ⟨rfl, e1, (by decide : 1 + 3 ≤ _), (by decide : 6 + 23 ≤ _)⟩)
  dsimp only [Pt.U, Pt.locs, Pt.cells, Pt.slots] at X2 l2 y2 z2 st2 hQ2
  subst l2 y2 z2
  obtain ⟨b2c1, b2c2, b2c3, kc2kd4, rfl, N2q, Kq2, s_b2c1, s_b2c2, s_b2c3, nq_b2c1_b2c2, nq_b2c1_b2c3, nq_b2c2_b2c3, fq2_0, fq2_1, fq2_2, fq2_3, fq2_4, fq2_5, fq2_6, fq2_7, fq2_8, fq2_9, fq2_10, fq2_11, fq2_12, fq2_13, fq2_14, fq2_15, fq2_16, fq2_17⟩ := hQ2
  have N2 := Fr.app N0 N2q
  have g_b2c1 : n0 ≤ b2c1 := Nat.le_trans (Nat.le_trans Z0 K1.1) s_b2c1
  have sz_b2c1 : h0.size ≤ b2c1 := Nat.le_trans K1.1 s_b2c1
  have g_b2c2 : n0 ≤ b2c2 := Nat.le_trans (Nat.le_trans Z0 K1.1) s_b2c2
  have sz_b2c2 : h0.size ≤ b2c2 := Nat.le_trans K1.1 s_b2c2
  have g_b2c3 : n0 ≤ b2c3 := Nat.le_trans (Nat.le_trans Z0 K1.1) s_b2c3
  have sz_b2c3 : h0.size ≤ b2c3 := Nat.le_trans K1.1 s_b2c3
  have K2 : Keep h0 T2.heap [] := K1.trans Kq2 (allS (Or.inr sz_b1) all0)
  obtain ⟨T3, h3, X3, e3, E3, A3, D3, -, st3⟩ := newO X2 hx hZ hown (hw _ (List.mem_of_getElem? (i := 77) rfl)) (hw _ (List.mem_of_getElem? (i := 78) rfl)) (hw _ (List.mem_of_getElem? (i := 79) rfl)) rfl (g := (mkF m 58 #[.val (.int p1), .val (.long q2), .second, .val (.long q3), .second, .val (.long q4), .second, .val (.long q5), .second, .val (.int vt), .val (.long tk), .second, .val (.long lp), .second, .val (.long va), .second, .val (.long vb), .second, .val (.long vn), .second, .val (.ref b1), .unset, .unset, .unset, .unset, .unset, .unset, .unset, .unset] [(.ref b1)])) rfl (hb hby at_58) (by decide) (by decide)
  obtain ⟨b3, g3⟩ : ∃ z, z = T2.heap.size := ⟨_, rfl⟩
  have s_b3 : T2.heap.size ≤ b3 := Nat.le_of_eq g3.symm
  have g_b3 : n0 ≤ b3 := Nat.le_trans (Nat.le_trans Z0 K2.1) s_b3
  have sz_b3 : h0.size ≤ b3 := Nat.le_trans K2.1 s_b3
  rw [← g3] at A3 D3 st3
  have K3 : Keep h0 h3 [] := K2.ext E3
  have F_modCount_b3 : Fld Z h3 b3 "java/util/AbstractList" "modCount" "I" (.int 0) := D3 (Or.inl (hw _ (List.mem_of_getElem? (i := 92) rfl))) (ty := .int) (by decide)
  have F_elementData_b3 : Fld Z h3 b3 "java/util/ArrayList" "elementData" "[Ljava/lang/Object;" .null := D3 (Or.inl (hw _ (List.mem_of_getElem? (i := 95) rfl))) (ty := (.array (.object "java/lang/Object"))) (by decide)
  have F_size_b3 : Fld Z h3 b3 "java/util/ArrayList" "size" "I" (.int 0) := D3 (Or.inl (hw _ (List.mem_of_getElem? (i := 169) rfl))) (ty := .int) (by decide)
  obtain ⟨_, _, ⟨T4, L4, k4, n4⟩, -, X4, ⟨Lc4, hQ4, l4, y4, z4⟩, st4⟩ := X3.specialBack hx (y := (⟨"java/util/ArrayList", "<init>", "()V"⟩ : MethodName)) rfl hown (mvT hZ (hw _ (List.mem_of_getElem? (i := 80) rfl))) (mvT hZ (hw _ (List.mem_of_getElem? (i := 81) rfl))) (mvT hZ (hw _ (List.mem_of_getElem? (i := 82) rfl))) (by decide) (backOf (W := 2) (rm10_o1 l Z a0 hw [] b3 w_DEFAULTCAPACITY_EMPTY_ELEMENTDATA h3 n0 (Nat.le_trans Z0 K3.1) A3 F_modCount_b3 g_b3 F_elementData_b3 F_size_b3 (own_sta_keep S_DEFAULTCAPACITY_EMPTY_ELEMENTDATA K3)) hZ (hw _ (List.mem_of_getElem? (i := 82) rfl)) (hw _ (List.mem_of_getElem? (i := 79) rfl)) (by decide) (by decide)) (g := (mkF m 62 #[.val (.int p1), .val (.long q2), .second, .val (.long q3), .second, .val (.long q4), .second, .val (.long q5), .second, .val (.int vt), .val (.long tk), .second, .val (.long lp), .second, .val (.long va), .second, .val (.long vb), .second, .val (.long vn), .second, .val (.ref b1), .unset, .unset, .unset, .unset, .unset, .unset, .unset, .unset] [(.ref b3), (.ref b3), (.ref b1)])) rfl (by rw [hml]; rfl) (Steps.refl _) (a := b3) (argsL := []) (rest := [(.ref b3), (.ref b1)]) (lenOf pd___V rfl) rfl (by show 2 * 0 + _ ≤ _; exact Nat.le_of_eq rfl) (hb hby at_62) (fun _ _ => ⟨rfl, e3, (by decide : 5 + 0 ≤ _), (by decide : 32 + 0 ≤ _)⟩)
  dsimp only [Pt.U, Pt.locs, Pt.cells, Pt.slots] at X4 l4 y4 z4 st4 hQ4
  subst l4 y4 z4
  obtain ⟨rfl, N4q, Kq4, fq4_0, fq4_1, fq4_2, fq4_3⟩ := hQ4
  have N4 := Fr.app N2 N4q
  have K4 : Keep h0 T4.heap [] := K3.trans Kq4 (allS (Or.inr sz_b3) all0)
  obtain ⟨cq5, kq5, q5a, q5b, q5c⟩ := isOf hZ rfl ((fq2_0.ext E3).keep Kq4)
  obtain ⟨_, _, ⟨T5, L5, k5, n5⟩, -, X5, ⟨Lc5, hQ5, l5, y5, z5⟩, st5⟩ := X4.virtualBack hx (y := (⟨"com/example/epochcast/epochcast/server/SessionLeases", "begin", "(Ljava/util/Collection;J)V"⟩ : MethodName)) (z := (⟨"com/example/epochcast/epochcast/server/SessionLeases", "begin", "(Ljava/util/Collection;J)V"⟩ : MethodName)) hown (mvT hZ (hw _ (List.mem_of_getElem? (i := 96) rfl))) (mvT hZ (hw _ (List.mem_of_getElem? (i := 97) rfl))) (notFace_of_selects (args := #[]) (mvT hZ (hw _ (List.mem_of_getElem? (i := 99) rfl)))) (mvT hZ (hw _ (List.mem_of_getElem? (i := 99) rfl))) (mvT hZ (hw _ (List.mem_of_getElem? (i := 98) rfl))) (by decide) (backOf (W := 0) (rm12_o1_o2_q2 l Z a0 hw [] b1 b3 q2 b2c1 b2c2 b2c3 tk lp T4.heap n0 (Nat.le_trans Z0 K4.1) ((fq2_1.ext E3).keep Kq4 (ninS (Nat.ne_of_lt (Nat.lt_of_lt_of_le (fq2_0).lt s_b3)) nin0)) ((fq2_9.ext E3).keep Kq4 (ninS (Nat.ne_of_lt (Nat.lt_of_lt_of_le (fq2_7).lt s_b3)) nin0)) ((fq2_7.ext E3).keep Kq4) g_b2c1 ((fq2_10.ext E3).keep Kq4 (ninS (Nat.ne_of_lt (Nat.lt_of_lt_of_le (fq2_7).lt s_b3)) nin0)) ((fq2_8.ext E3).keep Kq4 (ninS (Nat.ne_of_lt (Nat.lt_of_lt_of_le (fq2_7).lt s_b3)) nin0)) ((fq2_2.ext E3).keep Kq4 (ninS (Nat.ne_of_lt (Nat.lt_of_lt_of_le (fq2_0).lt s_b3)) nin0)) (Nat.ne_of_lt (Nat.lt_of_lt_of_le (A1).lt s_b2c1)) ((fq2_14.ext E3).keep Kq4 (ninS (Nat.ne_of_lt (Nat.lt_of_lt_of_le (fq2_11).lt s_b3)) nin0)) nq_b2c1_b2c2 ((fq2_11.ext E3).keep Kq4) g_b2c2 ((fq2_12.ext E3).keep Kq4 (ninS (Nat.ne_of_lt (Nat.lt_of_lt_of_le (fq2_11).lt s_b3)) nin0)) ((fq2_15.ext E3).keep Kq4 (ninS (Nat.ne_of_lt (Nat.lt_of_lt_of_le (fq2_11).lt s_b3)) nin0)) ((fq2_13.ext E3).keep Kq4 (ninS (Nat.ne_of_lt (Nat.lt_of_lt_of_le (fq2_11).lt s_b3)) nin0)) ((fq2_0.ext E3).keep Kq4) ((fq2_5.ext E3).keep Kq4 (ninS (Nat.ne_of_lt (Nat.lt_of_lt_of_le (fq2_0).lt s_b3)) nin0)) (Nat.ne_of_lt (Nat.lt_of_lt_of_le (A1).lt s_b2c2)) g_b1 ((fq2_6.ext E3).keep Kq4 (ninS (Nat.ne_of_lt (Nat.lt_of_lt_of_le (fq2_0).lt s_b3)) nin0)) fq4_1 (Ne.symm (Nat.ne_of_lt (Nat.lt_of_lt_of_le (fq2_11).lt s_b3))) (Ne.symm (Nat.ne_of_lt (Nat.lt_of_lt_of_le (fq2_7).lt s_b3))) (Nat.ne_of_lt (Nat.lt_of_lt_of_le (fq2_0).lt s_b3)) fq4_0 fq4_3 ((fq2_3.ext E3).keep Kq4 (ninS (Nat.ne_of_lt (Nat.lt_of_lt_of_le (fq2_0).lt s_b3)) nin0)) ((fq2_4.ext E3).keep Kq4 (ninS (Nat.ne_of_lt (Nat.lt_of_lt_of_le (fq2_0).lt s_b3)) nin0))) hZ (hw _ (List.mem_of_getElem? (i := 100) rfl)) (hw _ (List.mem_of_getElem? (i := 5) rfl)) (by decide) (by decide)) q5a q5c (g := (mkF m 66 #[.val (.int p1), .val (.long q2), .second, .val (.long q3), .second, .val (.long q4), .second, .val (.long q5), .second, .val (.int vt), .val (.long tk), .second, .val (.long lp), .second, .val (.long va), .second, .val (.long vb), .second, .val (.long vn), .second, .val (.ref b1), .unset, .unset, .unset, .unset, .unset, .unset, .unset, .unset] [(.long q2), (.ref b3), (.ref b1)])) rfl (by rw [hml]; rfl) (Steps.refl _) (argsL := [(.ref b3), (.long q2)]) (rest := []) (lenOf pd__Ljava_util_Collection_J_V rfl) rfl (by show 2 * 0 + _ ≤ _; exact Nat.le_of_eq rfl) (hb hby at_66) (fun _ _ => ⟨rfl, rfl, (by decide : 5 + 1 ≤ _), (by decide : 32 + 4 ≤ _)⟩)
  dsimp only [Pt.U, Pt.locs, Pt.cells, Pt.slots] at X5 l5 y5 z5 st5 hQ5
  subst l5 y5 z5
  obtain ⟨rfl, N5q, Kq5, fq5_0, fq5_1, fq5_2, fq5_3, fq5_4, fq5_5, fq5_6, fq5_7, fq5_8, fq5_9, fq5_10, fq5_11, fq5_12, fq5_13, fq5_14, fq5_15⟩ := hQ5
  have N5 := Fr.app N4 N5q
  have K5 : Keep h0 T5.heap [] := K4.trans Kq5 (allS (Or.inr sz_b2c1) (allS (Or.inr sz_b2c2) (allS (Or.inr sz_b1) all0)))
  obtain ⟨cq6, kq6, q6a, q6b, q6c⟩ := isOf hZ rfl fq5_11
  obtain ⟨_, _, ⟨T6, L6, k6, n6⟩, -, X6, ⟨Lc6, hQ6, l6, y6, z6⟩, st6⟩ := X5.virtualBack hx (y := (⟨"com/example/epochcast/epochcast/server/SessionLeases", "heartbeat", "(J)V"⟩ : MethodName)) (z := (⟨"com/example/epochcast/epochcast/server/SessionLeases", "heartbeat", "(J)V"⟩ : MethodName)) hown (mvT hZ (hw _ (List.mem_of_getElem? (i := 170) rfl))) (mvT hZ (hw _ (List.mem_of_getElem? (i := 171) rfl))) (notFace_of_selects (args := #[]) (mvT hZ (hw _ (List.mem_of_getElem? (i := 173) rfl)))) (mvT hZ (hw _ (List.mem_of_getElem? (i := 173) rfl))) (mvT hZ (hw _ (List.mem_of_getElem? (i := 172) rfl))) (by decide) (backOf (W := 0) (rm19_o1_va_v1 l Z a0 hw [] b1 va q2 lp b2c1 b2c2 tk T5.heap n0 (Nat.le_trans Z0 K5.1) fq5_12 fq5_15 hc11 fq5_11 g_b1 fq5_9 fq5_10 fq5_13 fq5_14) hZ (hw _ (List.mem_of_getElem? (i := 174) rfl)) (hw _ (List.mem_of_getElem? (i := 5) rfl)) (by decide) (by decide)) q6a q6c (g := (mkF m 73 #[.val (.int p1), .val (.long q2), .second, .val (.long q3), .second, .val (.long q4), .second, .val (.long q5), .second, .val (.int vt), .val (.long tk), .second, .val (.long lp), .second, .val (.long va), .second, .val (.long vb), .second, .val (.long vn), .second, .val (.ref b1), .unset, .unset, .unset, .unset, .unset, .unset, .unset, .unset] [(.long va), (.ref b1)])) rfl (by rw [hml]; rfl) (Steps.refl _) (argsL := [(.long va)]) (rest := []) (lenOf pd__J_V rfl) rfl (by show 2 * 0 + _ ≤ _; exact Nat.le_of_eq rfl) (hb hby at_73) (fun _ _ => ⟨rfl, rfl, (by decide : 6 + 0 ≤ _), (by decide : 36 + 0 ≤ _)⟩)
  dsimp only [Pt.U, Pt.locs, Pt.cells, Pt.slots] at X6 l6 y6 z6 st6 hQ6
  subst l6 y6 z6
  obtain ⟨rfl, N6q, Kq6, fq6_0, fq6_1, fq6_2, fq6_3, fq6_4, fq6_5, fq6_6⟩ := hQ6
  have N6 := Fr.app N5 N6q
  have K6 : Keep h0 T6.heap [] := K5.trans Kq6 (allS (Or.inr sz_b1) all0)
  obtain ⟨cq7, kq7, q7a, q7b, q7c⟩ := isOf hZ rfl fq6_2
  obtain ⟨_, _, ⟨T7, L7, k7, n7⟩, -, X7, ⟨Lc7, hQ7, l7, y7, z7⟩, st7⟩ := X6.virtualBack hx (y := (⟨"com/example/epochcast/epochcast/server/SessionLeases", "heartbeat", "(J)V"⟩ : MethodName)) (z := (⟨"com/example/epochcast/epochcast/server/SessionLeases", "heartbeat", "(J)V"⟩ : MethodName)) hown (mvT hZ (hw _ (List.mem_of_getElem? (i := 170) rfl))) (mvT hZ (hw _ (List.mem_of_getElem? (i := 171) rfl))) (notFace_of_selects (args := #[]) (mvT hZ (hw _ (List.mem_of_getElem? (i := 173) rfl)))) (mvT hZ (hw _ (List.mem_of_getElem? (i := 173) rfl))) (mvT hZ (hw _ (List.mem_of_getElem? (i := 172) rfl))) (by decide) (backOf (W := 0) (rm19_o1_vb_v2 l Z a0 hw [] b1 vb va lp tk cb q2 b2c1 b2c2 T6.heap n0 (Nat.le_trans Z0 K6.1) fq6_0 fq6_1 hc11_o1_vb_v2 fq6_6 hcb fq6_2 fq6_5 g_b1 fq6_3 fq6_4) hZ (hw _ (List.mem_of_getElem? (i := 174) rfl)) (hw _ (List.mem_of_getElem? (i := 5) rfl)) (by decide) (by decide)) q7a q7c (g := (mkF m 80 #[.val (.int p1), .val (.long q2), .second, .val (.long q3), .second, .val (.long q4), .second, .val (.long q5), .second, .val (.int vt), .val (.long tk), .second, .val (.long lp), .second, .val (.long va), .second, .val (.long vb), .second, .val (.long vn), .second, .val (.ref b1), .unset, .unset, .unset, .unset, .unset, .unset, .unset, .unset] [(.long vb), (.ref b1)])) rfl (by rw [hml]; rfl) (Steps.refl _) (argsL := [(.long vb)]) (rest := []) (lenOf pd__J_V rfl) rfl (by show 2 * 0 + _ ≤ _; exact Nat.le_of_eq rfl) (hb hby at_80) (fun _ _ => ⟨rfl, rfl, (by decide : 6 + 0 ≤ _), (by decide : 36 + 0 ≤ _)⟩)
  dsimp only [Pt.U, Pt.locs, Pt.cells, Pt.slots] at X7 l7 y7 z7 st7 hQ7
  subst l7 y7 z7
  obtain ⟨rfl, N7q, Kq7, fq7_0, fq7_1, fq7_2, fq7_3, fq7_4, fq7_5, fq7_6⟩ := hQ7
  have N7 := Fr.app N6 N7q
  have K7 : Keep h0 T7.heap [] := K6.trans Kq7 (allS (Or.inr sz_b1) all0)
  obtain ⟨cq8, kq8, q8a, q8b, q8c⟩ := isOf hZ rfl fq7_3
  obtain ⟨_, _, ⟨T8, L8, k8, n8⟩, -, X8, ⟨Lc8, hQ8, l8, y8, z8⟩, st8⟩ := X7.virtualBack hx (y := (⟨"com/example/epochcast/epochcast/server/SessionLeases", "nextCheck", "(J)J"⟩ : MethodName)) (z := (⟨"com/example/epochcast/epochcast/server/SessionLeases", "nextCheck", "(J)J"⟩ : MethodName)) hown (mvT hZ (hw _ (List.mem_of_getElem? (i := 175) rfl))) (mvT hZ (hw _ (List.mem_of_getElem? (i := 176) rfl))) (notFace_of_selects (args := #[]) (mvT hZ (hw _ (List.mem_of_getElem? (i := 178) rfl)))) (mvT hZ (hw _ (List.mem_of_getElem? (i := 178) rfl))) (mvT hZ (hw _ (List.mem_of_getElem? (i := 177) rfl))) (by decide) (backOf (W := 0) (rm20_nx l Z a0 hw [] b1 vn tk vb lp cb b2c2 b2c3 kc2kd4 T7.heap n0 (Nat.le_trans Z0 K7.1) fq7_2 fq7_0 fq7_1 fq7_6 ((fq5_6.keep Kq6 (ninS (Ne.symm (Nat.ne_of_lt (Nat.lt_of_lt_of_le (A1).lt s_b2c2))) nin0)).keep Kq7 (ninS (Ne.symm (Nat.ne_of_lt (Nat.lt_of_lt_of_le (A1).lt s_b2c2))) nin0)) (((((fq2_16.ext E3).keep Kq4 (ninS (Nat.ne_of_lt (Nat.lt_of_lt_of_le (fq2_16).lt s_b3)) nin0)).keep Kq5 (ninS (Ne.symm nq_b2c1_b2c3) (ninS (Ne.symm nq_b2c2_b2c3) (ninS (Ne.symm (Nat.ne_of_lt (Nat.lt_of_lt_of_le (A1).lt s_b2c3))) nin0)))).keep Kq6 (ninS (Ne.symm (Nat.ne_of_lt (Nat.lt_of_lt_of_le (A1).lt s_b2c3))) nin0)).keep Kq7 (ninS (Ne.symm (Nat.ne_of_lt (Nat.lt_of_lt_of_le (A1).lt s_b2c3))) nin0)) ((fq5_4.keep Kq6).keep Kq7) fq7_4) hZ (hw _ (List.mem_of_getElem? (i := 179) rfl)) (hw _ (List.mem_of_getElem? (i := 5) rfl)) (by decide) (by decide)) q8a q8c (g := (mkF m 144 #[.val (.int p1), .val (.long q2), .second, .val (.long q3), .second, .val (.long q4), .second, .val (.long q5), .second, .val (.int vt), .val (.long tk), .second, .val (.long lp), .second, .val (.long va), .second, .val (.long vb), .second, .val (.long vn), .second, .val (.ref b1), .val (.long q2), .second, .val (.long cb), .second, .val (.long vb), .second, .val (.long vmm), .second] [(.long vn), (.ref b1)])) rfl (by rw [hml]; rfl) (Steps.refl _) (argsL := [(.long vn)]) (rest := []) (lenOf pd__J_J rfl) rfl (by show 2 * 0 + _ ≤ _; exact Nat.le_of_eq rfl) (hb hby at_144) (fun _ _ => ⟨rfl, rfl, (by decide : 6 + 0 ≤ _), (by decide : 36 + 0 ≤ _)⟩)
  dsimp only [Pt.U, Pt.locs, Pt.cells, Pt.slots] at X8 l8 y8 z8 st8 hQ8
  subst l8 y8 z8
  obtain ⟨rfl, N8q, e8⟩ := hQ8
  have N8 := Fr.app N7 N8q
  obtain ⟨_, _, ⟨T9, L9, k9, n9⟩, -, X9, ⟨Lc9, hQ9, l9, y9, z9⟩, st9⟩ := Jvm.LawKit.callS X8 hx (y := (⟨"com/example/epochcast/epochcast/server/SessionLeasesHeartbeatPinLaw", "ref", "(JJJJJ)J"⟩ : MethodName)) hown (mvT hZ (hw _ (List.mem_of_getElem? (i := 180) rfl))) (mvT hZ (hw _ (List.mem_of_getElem? (i := 181) rfl))) (mvT hZ (hw _ (List.mem_of_getElem? (i := 182) rfl))) (mvT hZ (hw _ (List.mem_of_getElem? (i := 183) rfl))) (by decide) (backOf (W := 2) (rm21_rf l Z a0 hw [] vn vb cb tk lp T7.heap n0 (Nat.le_trans Z0 K7.1)) hZ (hw _ (List.mem_of_getElem? (i := 183) rfl)) (hw _ (List.mem_of_getElem? (i := 182) rfl)) (by decide) (by decide)) (g := (mkF m 157 #[.val (.int p1), .val (.long q2), .second, .val (.long q3), .second, .val (.long q4), .second, .val (.long q5), .second, .val (.int vt), .val (.long tk), .second, .val (.long lp), .second, .val (.long va), .second, .val (.long vb), .second, .val (.long vn), .second, .val (.ref b1), .val (.long q2), .second, .val (.long cb), .second, .val (.long vb), .second, .val (.long vmm), .second] [(.long lp), (.long tk), (.long cb), (.long vb), (.long vn), (.long (own_ref vn vb cb tk lp))])) rfl (by rw [hml]; rfl) (argsL := [(.long vn), (.long vb), (.long cb), (.long tk), (.long lp)]) (rest := [(.long (own_ref vn vb cb tk lp))]) (lenOf pd__JJJJJ_J rfl) rfl (by show 2 * 0 + _ ≤ _; exact Nat.le_of_eq rfl) (hb hby at_157) (fun _ _ => ⟨rfl, e8, (by decide : 6 + 0 ≤ _), (by decide : 36 + 0 ≤ _)⟩)
  dsimp only [Pt.U, Pt.locs, Pt.cells, Pt.slots] at X9 l9 y9 z9 st9 hQ9
  subst l9 y9 z9
  obtain ⟨rfl, N9q, e9⟩ := hQ9
  have N9 := Fr.app N8 N9q
  obtain ⟨cq10, kq10, q10a, q10b, q10c⟩ := isOf hZ e9 fq7_3
  obtain ⟨_, _, ⟨T10, L10, k10, n10⟩, -, X10, ⟨Lc10, hQ10, l10, y10, z10⟩, st10⟩ := X9.virtualBack hx (y := (⟨"com/example/epochcast/epochcast/server/SessionLeases", "nextCheck", "(J)J"⟩ : MethodName)) (z := (⟨"com/example/epochcast/epochcast/server/SessionLeases", "nextCheck", "(J)J"⟩ : MethodName)) hown (mvT hZ (hw _ (List.mem_of_getElem? (i := 175) rfl))) (mvT hZ (hw _ (List.mem_of_getElem? (i := 176) rfl))) (notFace_of_selects (args := #[]) (mvT hZ (hw _ (List.mem_of_getElem? (i := 178) rfl)))) (mvT hZ (hw _ (List.mem_of_getElem? (i := 178) rfl))) (mvT hZ (hw _ (List.mem_of_getElem? (i := 177) rfl))) (by decide) (backOf (W := 0) (rm20_nx l Z a0 hw [] b1 bm tk vb lp cb b2c2 b2c3 kc2kd4 T7.heap n0 (Nat.le_trans Z0 K7.1) fq7_2 fq7_0 fq7_1 fq7_6 ((fq5_6.keep Kq6 (ninS (Ne.symm (Nat.ne_of_lt (Nat.lt_of_lt_of_le (A1).lt s_b2c2))) nin0)).keep Kq7 (ninS (Ne.symm (Nat.ne_of_lt (Nat.lt_of_lt_of_le (A1).lt s_b2c2))) nin0)) (((((fq2_16.ext E3).keep Kq4 (ninS (Nat.ne_of_lt (Nat.lt_of_lt_of_le (fq2_16).lt s_b3)) nin0)).keep Kq5 (ninS (Ne.symm nq_b2c1_b2c3) (ninS (Ne.symm nq_b2c2_b2c3) (ninS (Ne.symm (Nat.ne_of_lt (Nat.lt_of_lt_of_le (A1).lt s_b2c3))) nin0)))).keep Kq6 (ninS (Ne.symm (Nat.ne_of_lt (Nat.lt_of_lt_of_le (A1).lt s_b2c3))) nin0)).keep Kq7 (ninS (Ne.symm (Nat.ne_of_lt (Nat.lt_of_lt_of_le (A1).lt s_b2c3))) nin0)) ((fq5_4.keep Kq6).keep Kq7) fq7_4) hZ (hw _ (List.mem_of_getElem? (i := 179) rfl)) (hw _ (List.mem_of_getElem? (i := 5) rfl)) (by decide) (by decide)) q10a q10c (g := (mkF m 170 #[.val (.int p1), .val (.long q2), .second, .val (.long q3), .second, .val (.long q4), .second, .val (.long q5), .second, .val (.int vt), .val (.long tk), .second, .val (.long lp), .second, .val (.long va), .second, .val (.long vb), .second, .val (.long vn), .second, .val (.ref b1), .val (.long q2), .second, .val (.long cb), .second, .val (.long vb), .second, .val (.long vmm), .second] [(.long bm), (.ref b1)])) rfl (by rw [hml]; rfl) (Steps.refl _) (argsL := [(.long bm)]) (rest := []) (lenOf pd__J_J rfl) rfl (by show 2 * 0 + _ ≤ _; exact Nat.le_of_eq rfl) (hb hby at_170) (fun _ _ => ⟨rfl, e9, (by decide : 6 + 0 ≤ _), (by decide : 36 + 0 ≤ _)⟩)
  dsimp only [Pt.U, Pt.locs, Pt.cells, Pt.slots] at X10 l10 y10 z10 st10 hQ10
  subst l10 y10 z10
  obtain ⟨rfl, N10q, e10⟩ := hQ10
  have N10 := Fr.app N9 N10q
  obtain ⟨_, _, ⟨T11, L11, k11, n11⟩, -, X11, ⟨Lc11, hQ11, l11, y11, z11⟩, st11⟩ := Jvm.LawKit.callS X10 hx (y := (⟨"com/example/epochcast/epochcast/server/SessionLeasesHeartbeatPinLaw", "ref", "(JJJJJ)J"⟩ : MethodName)) hown (mvT hZ (hw _ (List.mem_of_getElem? (i := 180) rfl))) (mvT hZ (hw _ (List.mem_of_getElem? (i := 181) rfl))) (mvT hZ (hw _ (List.mem_of_getElem? (i := 182) rfl))) (mvT hZ (hw _ (List.mem_of_getElem? (i := 183) rfl))) (by decide) (backOf (W := 2) (rm21_rf l Z a0 hw [] bm vb cb tk lp T7.heap n0 (Nat.le_trans Z0 K7.1)) hZ (hw _ (List.mem_of_getElem? (i := 183) rfl)) (hw _ (List.mem_of_getElem? (i := 182) rfl)) (by decide) (by decide)) (g := (mkF m 185 #[.val (.int p1), .val (.long q2), .second, .val (.long q3), .second, .val (.long q4), .second, .val (.long q5), .second, .val (.int vt), .val (.long tk), .second, .val (.long lp), .second, .val (.long va), .second, .val (.long vb), .second, .val (.long vn), .second, .val (.ref b1), .val (.long q2), .second, .val (.long cb), .second, .val (.long vb), .second, .val (.long vmm), .second] [(.long lp), (.long tk), (.long cb), (.long vb), (.long bm), (.long (own_ref bm vb cb tk lp))])) rfl (by rw [hml]; rfl) (argsL := [(.long bm), (.long vb), (.long cb), (.long tk), (.long lp)]) (rest := [(.long (own_ref bm vb cb tk lp))]) (lenOf pd__JJJJJ_J rfl) rfl (by show 2 * 0 + _ ≤ _; exact Nat.le_of_eq rfl) (hb hby at_185) (fun _ _ => ⟨rfl, e10, (by decide : 6 + 0 ≤ _), (by decide : 36 + 0 ≤ _)⟩)
  dsimp only [Pt.U, Pt.locs, Pt.cells, Pt.slots] at X11 l11 y11 z11 st11 hQ11
  subst l11 y11 z11
  obtain ⟨rfl, N11q, e11⟩ := hQ11
  have N11 := Fr.app N10 N11q
  obtain ⟨cq12, kq12, q12a, q12b, q12c⟩ := isOf hZ e11 fq7_3
  obtain ⟨_, _, ⟨T12, L12, k12, n12⟩, -, X12, ⟨Lc12, hQ12, l12, y12, z12⟩, st12⟩ := X11.virtualBack hx (y := (⟨"com/example/epochcast/epochcast/server/SessionLeases", "nextCheck", "(J)J"⟩ : MethodName)) (z := (⟨"com/example/epochcast/epochcast/server/SessionLeases", "nextCheck", "(J)J"⟩ : MethodName)) hown (mvT hZ (hw _ (List.mem_of_getElem? (i := 175) rfl))) (mvT hZ (hw _ (List.mem_of_getElem? (i := 176) rfl))) (notFace_of_selects (args := #[]) (mvT hZ (hw _ (List.mem_of_getElem? (i := 178) rfl)))) (mvT hZ (hw _ (List.mem_of_getElem? (i := 178) rfl))) (mvT hZ (hw _ (List.mem_of_getElem? (i := 177) rfl))) (by decide) (backOf (W := 0) (rm20_nx l Z a0 hw [] b1 bl tk vb lp cb b2c2 b2c3 kc2kd4 T7.heap n0 (Nat.le_trans Z0 K7.1) fq7_2 fq7_0 fq7_1 fq7_6 ((fq5_6.keep Kq6 (ninS (Ne.symm (Nat.ne_of_lt (Nat.lt_of_lt_of_le (A1).lt s_b2c2))) nin0)).keep Kq7 (ninS (Ne.symm (Nat.ne_of_lt (Nat.lt_of_lt_of_le (A1).lt s_b2c2))) nin0)) (((((fq2_16.ext E3).keep Kq4 (ninS (Nat.ne_of_lt (Nat.lt_of_lt_of_le (fq2_16).lt s_b3)) nin0)).keep Kq5 (ninS (Ne.symm nq_b2c1_b2c3) (ninS (Ne.symm nq_b2c2_b2c3) (ninS (Ne.symm (Nat.ne_of_lt (Nat.lt_of_lt_of_le (A1).lt s_b2c3))) nin0)))).keep Kq6 (ninS (Ne.symm (Nat.ne_of_lt (Nat.lt_of_lt_of_le (A1).lt s_b2c3))) nin0)).keep Kq7 (ninS (Ne.symm (Nat.ne_of_lt (Nat.lt_of_lt_of_le (A1).lt s_b2c3))) nin0)) ((fq5_4.keep Kq6).keep Kq7) fq7_4) hZ (hw _ (List.mem_of_getElem? (i := 179) rfl)) (hw _ (List.mem_of_getElem? (i := 5) rfl)) (by decide) (by decide)) q12a q12c (g := (mkF m 199 #[.val (.int p1), .val (.long q2), .second, .val (.long q3), .second, .val (.long q4), .second, .val (.long q5), .second, .val (.int vt), .val (.long tk), .second, .val (.long lp), .second, .val (.long va), .second, .val (.long vb), .second, .val (.long vn), .second, .val (.ref b1), .val (.long q2), .second, .val (.long cb), .second, .val (.long vb), .second, .val (.long vmm), .second] [(.long bl), (.ref b1)])) rfl (by rw [hml]; rfl) (Steps.refl _) (argsL := [(.long bl)]) (rest := []) (lenOf pd__J_J rfl) rfl (by show 2 * 0 + _ ≤ _; exact Nat.le_of_eq rfl) (hb hby at_199) (fun _ _ => ⟨rfl, e11, (by decide : 6 + 0 ≤ _), (by decide : 36 + 0 ≤ _)⟩)
  dsimp only [Pt.U, Pt.locs, Pt.cells, Pt.slots] at X12 l12 y12 z12 st12 hQ12
  subst l12 y12 z12
  obtain ⟨rfl, N12q, e12⟩ := hQ12
  have N12 := Fr.app N11 N12q
  obtain ⟨_, _, ⟨T13, L13, k13, n13⟩, -, X13, ⟨Lc13, hQ13, l13, y13, z13⟩, st13⟩ := Jvm.LawKit.callS X12 hx (y := (⟨"com/example/epochcast/epochcast/server/SessionLeasesHeartbeatPinLaw", "ref", "(JJJJJ)J"⟩ : MethodName)) hown (mvT hZ (hw _ (List.mem_of_getElem? (i := 180) rfl))) (mvT hZ (hw _ (List.mem_of_getElem? (i := 181) rfl))) (mvT hZ (hw _ (List.mem_of_getElem? (i := 182) rfl))) (mvT hZ (hw _ (List.mem_of_getElem? (i := 183) rfl))) (by decide) (backOf (W := 2) (rm21_rf l Z a0 hw [] bl vb cb tk lp T7.heap n0 (Nat.le_trans Z0 K7.1)) hZ (hw _ (List.mem_of_getElem? (i := 183) rfl)) (hw _ (List.mem_of_getElem? (i := 182) rfl)) (by decide) (by decide)) (g := (mkF m 215 #[.val (.int p1), .val (.long q2), .second, .val (.long q3), .second, .val (.long q4), .second, .val (.long q5), .second, .val (.int vt), .val (.long tk), .second, .val (.long lp), .second, .val (.long va), .second, .val (.long vb), .second, .val (.long vn), .second, .val (.ref b1), .val (.long q2), .second, .val (.long cb), .second, .val (.long vb), .second, .val (.long vmm), .second] [(.long lp), (.long tk), (.long cb), (.long vb), (.long bl), (.long (own_ref bl vb cb tk lp))])) rfl (by rw [hml]; rfl) (argsL := [(.long bl), (.long vb), (.long cb), (.long tk), (.long lp)]) (rest := [(.long (own_ref bl vb cb tk lp))]) (lenOf pd__JJJJJ_J rfl) rfl (by show 2 * 0 + _ ≤ _; exact Nat.le_of_eq rfl) (hb hby at_215) (fun _ _ => ⟨rfl, e12, (by decide : 6 + 0 ≤ _), (by decide : 36 + 0 ≤ _)⟩)
  dsimp only [Pt.U, Pt.locs, Pt.cells, Pt.slots] at X13 l13 y13 z13 st13 hQ13
  subst l13 y13 z13
  obtain ⟨rfl, N13q, e13⟩ := hQ13
  have N13 := Fr.app N12 N13q
  obtain ⟨cq14, kq14, q14a, q14b, q14c⟩ := isOf hZ e13 fq7_3
  obtain ⟨_, _, ⟨T14, L14, k14, n14⟩, -, X14, ⟨Lc14, hQ14, l14, y14, z14⟩, st14⟩ := X13.virtualBack hx (y := (⟨"com/example/epochcast/epochcast/server/SessionLeases", "nextCheck", "(J)J"⟩ : MethodName)) (z := (⟨"com/example/epochcast/epochcast/server/SessionLeases", "nextCheck", "(J)J"⟩ : MethodName)) hown (mvT hZ (hw _ (List.mem_of_getElem? (i := 175) rfl))) (mvT hZ (hw _ (List.mem_of_getElem? (i := 176) rfl))) (notFace_of_selects (args := #[]) (mvT hZ (hw _ (List.mem_of_getElem? (i := 178) rfl)))) (mvT hZ (hw _ (List.mem_of_getElem? (i := 178) rfl))) (mvT hZ (hw _ (List.mem_of_getElem? (i := 177) rfl))) (by decide) (backOf (W := 0) (rm20_nx l Z a0 hw [] b1 bl1 tk vb lp cb b2c2 b2c3 kc2kd4 T7.heap n0 (Nat.le_trans Z0 K7.1) fq7_2 fq7_0 fq7_1 fq7_6 ((fq5_6.keep Kq6 (ninS (Ne.symm (Nat.ne_of_lt (Nat.lt_of_lt_of_le (A1).lt s_b2c2))) nin0)).keep Kq7 (ninS (Ne.symm (Nat.ne_of_lt (Nat.lt_of_lt_of_le (A1).lt s_b2c2))) nin0)) (((((fq2_16.ext E3).keep Kq4 (ninS (Nat.ne_of_lt (Nat.lt_of_lt_of_le (fq2_16).lt s_b3)) nin0)).keep Kq5 (ninS (Ne.symm nq_b2c1_b2c3) (ninS (Ne.symm nq_b2c2_b2c3) (ninS (Ne.symm (Nat.ne_of_lt (Nat.lt_of_lt_of_le (A1).lt s_b2c3))) nin0)))).keep Kq6 (ninS (Ne.symm (Nat.ne_of_lt (Nat.lt_of_lt_of_le (A1).lt s_b2c3))) nin0)).keep Kq7 (ninS (Ne.symm (Nat.ne_of_lt (Nat.lt_of_lt_of_le (A1).lt s_b2c3))) nin0)) ((fq5_4.keep Kq6).keep Kq7) fq7_4) hZ (hw _ (List.mem_of_getElem? (i := 179) rfl)) (hw _ (List.mem_of_getElem? (i := 5) rfl)) (by decide) (by decide)) q14a q14c (g := (mkF m 231 #[.val (.int p1), .val (.long q2), .second, .val (.long q3), .second, .val (.long q4), .second, .val (.long q5), .second, .val (.int vt), .val (.long tk), .second, .val (.long lp), .second, .val (.long va), .second, .val (.long vb), .second, .val (.long vn), .second, .val (.ref b1), .val (.long q2), .second, .val (.long cb), .second, .val (.long vb), .second, .val (.long vmm), .second] [(.long bl1), (.ref b1)])) rfl (by rw [hml]; rfl) (Steps.refl _) (argsL := [(.long bl1)]) (rest := []) (lenOf pd__J_J rfl) rfl (by show 2 * 0 + _ ≤ _; exact Nat.le_of_eq rfl) (hb hby at_231) (fun _ _ => ⟨rfl, e13, (by decide : 6 + 0 ≤ _), (by decide : 36 + 0 ≤ _)⟩)
  dsimp only [Pt.U, Pt.locs, Pt.cells, Pt.slots] at X14 l14 y14 z14 st14 hQ14
  subst l14 y14 z14
  obtain ⟨rfl, N14q, e14⟩ := hQ14
  have N14 := Fr.app N13 N14q
  obtain ⟨_, _, ⟨T15, L15, k15, n15⟩, -, X15, ⟨Lc15, hQ15, l15, y15, z15⟩, st15⟩ := Jvm.LawKit.callS X14 hx (y := (⟨"com/example/epochcast/epochcast/server/SessionLeasesHeartbeatPinLaw", "ref", "(JJJJJ)J"⟩ : MethodName)) hown (mvT hZ (hw _ (List.mem_of_getElem? (i := 180) rfl))) (mvT hZ (hw _ (List.mem_of_getElem? (i := 181) rfl))) (mvT hZ (hw _ (List.mem_of_getElem? (i := 182) rfl))) (mvT hZ (hw _ (List.mem_of_getElem? (i := 183) rfl))) (by decide) (backOf (W := 2) (rm21_rf l Z a0 hw [] bl1 vb cb tk lp T7.heap n0 (Nat.le_trans Z0 K7.1)) hZ (hw _ (List.mem_of_getElem? (i := 183) rfl)) (hw _ (List.mem_of_getElem? (i := 182) rfl)) (by decide) (by decide)) (g := (mkF m 249 #[.val (.int p1), .val (.long q2), .second, .val (.long q3), .second, .val (.long q4), .second, .val (.long q5), .second, .val (.int vt), .val (.long tk), .second, .val (.long lp), .second, .val (.long va), .second, .val (.long vb), .second, .val (.long vn), .second, .val (.ref b1), .val (.long q2), .second, .val (.long cb), .second, .val (.long vb), .second, .val (.long vmm), .second] [(.long lp), (.long tk), (.long cb), (.long vb), (.long bl1), (.long (own_ref bl1 vb cb tk lp))])) rfl (by rw [hml]; rfl) (argsL := [(.long bl1), (.long vb), (.long cb), (.long tk), (.long lp)]) (rest := [(.long (own_ref bl1 vb cb tk lp))]) (lenOf pd__JJJJJ_J rfl) rfl (by show 2 * 0 + _ ≤ _; exact Nat.le_of_eq rfl) (hb hby at_249) (fun _ _ => ⟨rfl, e14, (by decide : 6 + 0 ≤ _), (by decide : 36 + 0 ≤ _)⟩)
  dsimp only [Pt.U, Pt.locs, Pt.cells, Pt.slots] at X15 l15 y15 z15 st15 hQ15
  subst l15 y15 z15
  obtain ⟨rfl, N15q, e15⟩ := hQ15
  have N15 := Fr.app N14 N15q
  obtain ⟨cq16, kq16, q16a, q16b, q16c⟩ := isOf hZ e15 fq7_3
  obtain ⟨_, _, ⟨T16, L16, k16, n16⟩, -, X16, ⟨Lc16, hQ16, l16, y16, z16⟩, st16⟩ := X15.virtualBack hx (y := (⟨"com/example/epochcast/epochcast/server/SessionLeases", "nextCheck", "(J)J"⟩ : MethodName)) (z := (⟨"com/example/epochcast/epochcast/server/SessionLeases", "nextCheck", "(J)J"⟩ : MethodName)) hown (mvT hZ (hw _ (List.mem_of_getElem? (i := 175) rfl))) (mvT hZ (hw _ (List.mem_of_getElem? (i := 176) rfl))) (notFace_of_selects (args := #[]) (mvT hZ (hw _ (List.mem_of_getElem? (i := 178) rfl)))) (mvT hZ (hw _ (List.mem_of_getElem? (i := 178) rfl))) (mvT hZ (hw _ (List.mem_of_getElem? (i := 177) rfl))) (by decide) (backOf (W := 0) (rm20_nx l Z a0 hw [] b1 vmm tk vb lp cb b2c2 b2c3 kc2kd4 T7.heap n0 (Nat.le_trans Z0 K7.1) fq7_2 fq7_0 fq7_1 fq7_6 ((fq5_6.keep Kq6 (ninS (Ne.symm (Nat.ne_of_lt (Nat.lt_of_lt_of_le (A1).lt s_b2c2))) nin0)).keep Kq7 (ninS (Ne.symm (Nat.ne_of_lt (Nat.lt_of_lt_of_le (A1).lt s_b2c2))) nin0)) (((((fq2_16.ext E3).keep Kq4 (ninS (Nat.ne_of_lt (Nat.lt_of_lt_of_le (fq2_16).lt s_b3)) nin0)).keep Kq5 (ninS (Ne.symm nq_b2c1_b2c3) (ninS (Ne.symm nq_b2c2_b2c3) (ninS (Ne.symm (Nat.ne_of_lt (Nat.lt_of_lt_of_le (A1).lt s_b2c3))) nin0)))).keep Kq6 (ninS (Ne.symm (Nat.ne_of_lt (Nat.lt_of_lt_of_le (A1).lt s_b2c3))) nin0)).keep Kq7 (ninS (Ne.symm (Nat.ne_of_lt (Nat.lt_of_lt_of_le (A1).lt s_b2c3))) nin0)) ((fq5_4.keep Kq6).keep Kq7) fq7_4) hZ (hw _ (List.mem_of_getElem? (i := 179) rfl)) (hw _ (List.mem_of_getElem? (i := 5) rfl)) (by decide) (by decide)) q16a q16c (g := (mkF m 260 #[.val (.int p1), .val (.long q2), .second, .val (.long q3), .second, .val (.long q4), .second, .val (.long q5), .second, .val (.int vt), .val (.long tk), .second, .val (.long lp), .second, .val (.long va), .second, .val (.long vb), .second, .val (.long vn), .second, .val (.ref b1), .val (.long q2), .second, .val (.long cb), .second, .val (.long vb), .second, .val (.long vmm), .second] [(.long vmm), (.ref b1)])) rfl (by rw [hml]; rfl) (Steps.refl _) (argsL := [(.long vmm)]) (rest := []) (lenOf pd__J_J rfl) rfl (by show 2 * 0 + _ ≤ _; exact Nat.le_of_eq rfl) (hb hby at_260) (fun _ _ => ⟨rfl, e15, (by decide : 6 + 0 ≤ _), (by decide : 36 + 0 ≤ _)⟩)
  dsimp only [Pt.U, Pt.locs, Pt.cells, Pt.slots] at X16 l16 y16 z16 st16 hQ16
  subst l16 y16 z16
  obtain ⟨rfl, N16q, e16⟩ := hQ16
  have N16 := Fr.app N15 N16q
  obtain ⟨_, _, ⟨T17, L17, k17, n17⟩, -, X17, ⟨Lc17, hQ17, l17, y17, z17⟩, st17⟩ := Jvm.LawKit.callS X16 hx (y := (⟨"com/example/epochcast/epochcast/server/SessionLeasesHeartbeatPinLaw", "ref", "(JJJJJ)J"⟩ : MethodName)) hown (mvT hZ (hw _ (List.mem_of_getElem? (i := 180) rfl))) (mvT hZ (hw _ (List.mem_of_getElem? (i := 181) rfl))) (mvT hZ (hw _ (List.mem_of_getElem? (i := 182) rfl))) (mvT hZ (hw _ (List.mem_of_getElem? (i := 183) rfl))) (by decide) (backOf (W := 2) (rm21_rf l Z a0 hw [] vmm vb cb tk lp T7.heap n0 (Nat.le_trans Z0 K7.1)) hZ (hw _ (List.mem_of_getElem? (i := 183) rfl)) (hw _ (List.mem_of_getElem? (i := 182) rfl)) (by decide) (by decide)) (g := (mkF m 273 #[.val (.int p1), .val (.long q2), .second, .val (.long q3), .second, .val (.long q4), .second, .val (.long q5), .second, .val (.int vt), .val (.long tk), .second, .val (.long lp), .second, .val (.long va), .second, .val (.long vb), .second, .val (.long vn), .second, .val (.ref b1), .val (.long q2), .second, .val (.long cb), .second, .val (.long vb), .second, .val (.long vmm), .second] [(.long lp), (.long tk), (.long cb), (.long vb), (.long vmm), (.long (own_ref vmm vb cb tk lp))])) rfl (by rw [hml]; rfl) (argsL := [(.long vmm), (.long vb), (.long cb), (.long tk), (.long lp)]) (rest := [(.long (own_ref vmm vb cb tk lp))]) (lenOf pd__JJJJJ_J rfl) rfl (by show 2 * 0 + _ ≤ _; exact Nat.le_of_eq rfl) (hb hby at_273) (fun _ _ => ⟨rfl, e16, (by decide : 6 + 0 ≤ _), (by decide : 36 + 0 ≤ _)⟩)
  dsimp only [Pt.U, Pt.locs, Pt.cells, Pt.slots] at X17 l17 y17 z17 st17 hQ17
  subst l17 y17 z17
  obtain ⟨rfl, N17q, e17⟩ := hQ17
  have N17 := Fr.app N16 N17q
  obtain ⟨fs, hr, hrun, hended, hW, hsame⟩ := X17.leave (v := some (.int 1)) (fun h => by rw [Bd.returns] at h; cases h)
  refine ⟨_, _, pre0 _ ?_, hrun, hended, _, _, rfl, ?_, ⟨_, rfl⟩, hW, hsame.mono (by decide) (by decide)⟩
  · show Steps p.tables e below (s₁.setTop (mkF m 0 #[.val (.int p1), .val (.long q2), .second, .val (.long q3), .second, .val (.long q4), .second, .val (.long q5), .second, .unset, .unset, .unset, .unset, .unset, .unset, .unset, .unset, .unset, .unset, .unset, .unset, .unset, .unset, .unset, .unset, .unset, .unset, .unset, .unset] [])) _
    refine XS.iloadN X0.here hx rfl (hb hby at_0) rfl ?_
    show Steps p.tables e below (s₁.setTop (mkF m 1 #[.val (.int p1), .val (.long q2), .second, .val (.long q3), .second, .val (.long q4), .second, .val (.long q5), .second, .unset, .unset, .unset, .unset, .unset, .unset, .unset, .unset, .unset, .unset, .unset, .unset, .unset, .unset, .unset, .unset, .unset, .unset, .unset, .unset] [(.int p1)])) _
    refine X0.ldcInt hx hown (mvT hZ (hw _ (List.mem_of_getElem? (i := 0) rfl))) (g := (mkF m 1 #[.val (.int p1), .val (.long q2), .second, .val (.long q3), .second, .val (.long q4), .second, .val (.long q5), .second, .unset, .unset, .unset, .unset, .unset, .unset, .unset, .unset, .unset, .unset, .unset, .unset, .unset, .unset, .unset, .unset, .unset, .unset, .unset, .unset] [(.int p1)])) rfl (hb hby at_1) _ ?_
    show Steps p.tables e below (s₁.setTop (mkF m 3 #[.val (.int p1), .val (.long q2), .second, .val (.long q3), .second, .val (.long q4), .second, .val (.long q5), .second, .unset, .unset, .unset, .unset, .unset, .unset, .unset, .unset, .unset, .unset, .unset, .unset, .unset, .unset, .unset, .unset, .unset, .unset, .unset, .unset] [(.int 2147483647), (.int p1)])) _
    refine XS.iand X0.here hx rfl (hb hby at_3) rfl ?_
    show Steps p.tables e below (s₁.setTop (mkF m 4 #[.val (.int p1), .val (.long q2), .second, .val (.long q3), .second, .val (.long q4), .second, .val (.long q5), .second, .unset, .unset, .unset, .unset, .unset, .unset, .unset, .unset, .unset, .unset, .unset, .unset, .unset, .unset, .unset, .unset, .unset, .unset, .unset, .unset] [(.int (p1 &&& (2147483647 : Int32)))])) _
    rw [ht]
    show Steps p.tables e below (s₁.setTop (mkF m 4 #[.val (.int p1), .val (.long q2), .second, .val (.long q3), .second, .val (.long q4), .second, .val (.long q5), .second, .unset, .unset, .unset, .unset, .unset, .unset, .unset, .unset, .unset, .unset, .unset, .unset, .unset, .unset, .unset, .unset, .unset, .unset, .unset, .unset] [(.int vt)])) _
    refine XS.istore X0.here hx rfl (hb hby at_4) rfl (l' := #[.val (.int p1), .val (.long q2), .second, .val (.long q3), .second, .val (.long q4), .second, .val (.long q5), .second, .val (.int vt), .unset, .unset, .unset, .unset, .unset, .unset, .unset, .unset, .unset, .unset, .unset, .unset, .unset, .unset, .unset, .unset, .unset, .unset, .unset]) rfl ?_
    show Steps p.tables e below (s₁.setTop (mkF m 6 #[.val (.int p1), .val (.long q2), .second, .val (.long q3), .second, .val (.long q4), .second, .val (.long q5), .second, .val (.int vt), .unset, .unset, .unset, .unset, .unset, .unset, .unset, .unset, .unset, .unset, .unset, .unset, .unset, .unset, .unset, .unset, .unset, .unset, .unset] [])) _
    refine XS.iload X0.here hx rfl (hb hby at_6) rfl ?_
    show Steps p.tables e below (s₁.setTop (mkF m 8 #[.val (.int p1), .val (.long q2), .second, .val (.long q3), .second, .val (.long q4), .second, .val (.long q5), .second, .val (.int vt), .unset, .unset, .unset, .unset, .unset, .unset, .unset, .unset, .unset, .unset, .unset, .unset, .unset, .unset, .unset, .unset, .unset, .unset, .unset] [(.int vt)])) _
    refine XS.i2l X0.here hx rfl (hb hby at_8) rfl ?_
    show Steps p.tables e below (s₁.setTop (mkF m 9 #[.val (.int p1), .val (.long q2), .second, .val (.long q3), .second, .val (.long q4), .second, .val (.long q5), .second, .val (.int vt), .unset, .unset, .unset, .unset, .unset, .unset, .unset, .unset, .unset, .unset, .unset, .unset, .unset, .unset, .unset, .unset, .unset, .unset, .unset] [(.long (vt.toInt64))])) _
    refine X0.ldc2Long hx hown (mvT hZ (hw _ (List.mem_of_getElem? (i := 1) rfl))) (g := (mkF m 9 #[.val (.int p1), .val (.long q2), .second, .val (.long q3), .second, .val (.long q4), .second, .val (.long q5), .second, .val (.int vt), .unset, .unset, .unset, .unset, .unset, .unset, .unset, .unset, .unset, .unset, .unset, .unset, .unset, .unset, .unset, .unset, .unset, .unset, .unset] [(.long (vt.toInt64))])) rfl (hb hby at_9) _ ?_
    show Steps p.tables e below (s₁.setTop (mkF m 12 #[.val (.int p1), .val (.long q2), .second, .val (.long q3), .second, .val (.long q4), .second, .val (.long q5), .second, .val (.int vt), .unset, .unset, .unset, .unset, .unset, .unset, .unset, .unset, .unset, .unset, .unset, .unset, .unset, .unset, .unset, .unset, .unset, .unset, .unset] [(.long 1000000), (.long (vt.toInt64))])) _
    refine XS.lmul X0.here hx rfl (hb hby at_12) rfl ?_
    show Steps p.tables e below (s₁.setTop (mkF m 13 #[.val (.int p1), .val (.long q2), .second, .val (.long q3), .second, .val (.long q4), .second, .val (.long q5), .second, .val (.int vt), .unset, .unset, .unset, .unset, .unset, .unset, .unset, .unset, .unset, .unset, .unset, .unset, .unset, .unset, .unset, .unset, .unset, .unset, .unset] [(.long ((vt.toInt64) * (1000000 : Int64)))])) _
    rw [htk]
    show Steps p.tables e below (s₁.setTop (mkF m 13 #[.val (.int p1), .val (.long q2), .second, .val (.long q3), .second, .val (.long q4), .second, .val (.long q5), .second, .val (.int vt), .unset, .unset, .unset, .unset, .unset, .unset, .unset, .unset, .unset, .unset, .unset, .unset, .unset, .unset, .unset, .unset, .unset, .unset, .unset] [(.long tk)])) _
    refine XS.lstore X0.here hx rfl (hb hby at_13) rfl (l' := #[.val (.int p1), .val (.long q2), .second, .val (.long q3), .second, .val (.long q4), .second, .val (.long q5), .second, .val (.int vt), .val (.long tk), .second, .unset, .unset, .unset, .unset, .unset, .unset, .unset, .unset, .unset, .unset, .unset, .unset, .unset, .unset, .unset, .unset, .unset]) rfl ?_
    show Steps p.tables e below (s₁.setTop (mkF m 15 #[.val (.int p1), .val (.long q2), .second, .val (.long q3), .second, .val (.long q4), .second, .val (.long q5), .second, .val (.int vt), .val (.long tk), .second, .unset, .unset, .unset, .unset, .unset, .unset, .unset, .unset, .unset, .unset, .unset, .unset, .unset, .unset, .unset, .unset, .unset] [])) _
    refine XS.lload X0.here hx rfl (hb hby at_15) rfl ?_
    show Steps p.tables e below (s₁.setTop (mkF m 17 #[.val (.int p1), .val (.long q2), .second, .val (.long q3), .second, .val (.long q4), .second, .val (.long q5), .second, .val (.int vt), .val (.long tk), .second, .unset, .unset, .unset, .unset, .unset, .unset, .unset, .unset, .unset, .unset, .unset, .unset, .unset, .unset, .unset, .unset, .unset] [(.long tk)])) _
    refine XS.lload X0.here hx rfl (hb hby at_17) rfl ?_
    show Steps p.tables e below (s₁.setTop (mkF m 19 #[.val (.int p1), .val (.long q2), .second, .val (.long q3), .second, .val (.long q4), .second, .val (.long q5), .second, .val (.int vt), .val (.long tk), .second, .unset, .unset, .unset, .unset, .unset, .unset, .unset, .unset, .unset, .unset, .unset, .unset, .unset, .unset, .unset, .unset, .unset] [(.long tk), (.long tk)])) _
    refine X0.ldc2Long hx hown (mvT hZ (hw _ (List.mem_of_getElem? (i := 2) rfl))) (g := (mkF m 19 #[.val (.int p1), .val (.long q2), .second, .val (.long q3), .second, .val (.long q4), .second, .val (.long q5), .second, .val (.int vt), .val (.long tk), .second, .unset, .unset, .unset, .unset, .unset, .unset, .unset, .unset, .unset, .unset, .unset, .unset, .unset, .unset, .unset, .unset, .unset] [(.long tk), (.long tk)])) rfl (hb hby at_19) _ ?_
    show Steps p.tables e below (s₁.setTop (mkF m 22 #[.val (.int p1), .val (.long q2), .second, .val (.long q3), .second, .val (.long q4), .second, .val (.long q5), .second, .val (.int vt), .val (.long tk), .second, .unset, .unset, .unset, .unset, .unset, .unset, .unset, .unset, .unset, .unset, .unset, .unset, .unset, .unset, .unset, .unset, .unset] [(.long 4), (.long tk), (.long tk)])) _
    refine XS.ldiv X0.here hx rfl (hb hby at_22) rfl (by decide) ?_
    show Steps p.tables e below (s₁.setTop (mkF m 23 #[.val (.int p1), .val (.long q2), .second, .val (.long q3), .second, .val (.long q4), .second, .val (.long q5), .second, .val (.int vt), .val (.long tk), .second, .unset, .unset, .unset, .unset, .unset, .unset, .unset, .unset, .unset, .unset, .unset, .unset, .unset, .unset, .unset, .unset, .unset] [(.long (tk / (4 : Int64))), (.long tk)])) _
    refine XS.ladd X0.here hx rfl (hb hby at_23) rfl ?_
    show Steps p.tables e below (s₁.setTop (mkF m 24 #[.val (.int p1), .val (.long q2), .second, .val (.long q3), .second, .val (.long q4), .second, .val (.long q5), .second, .val (.int vt), .val (.long tk), .second, .unset, .unset, .unset, .unset, .unset, .unset, .unset, .unset, .unset, .unset, .unset, .unset, .unset, .unset, .unset, .unset, .unset] [(.long (tk + (tk / (4 : Int64))))])) _
    rw [hlp]
    show Steps p.tables e below (s₁.setTop (mkF m 24 #[.val (.int p1), .val (.long q2), .second, .val (.long q3), .second, .val (.long q4), .second, .val (.long q5), .second, .val (.int vt), .val (.long tk), .second, .unset, .unset, .unset, .unset, .unset, .unset, .unset, .unset, .unset, .unset, .unset, .unset, .unset, .unset, .unset, .unset, .unset] [(.long lp)])) _
    refine XS.lstore X0.here hx rfl (hb hby at_24) rfl (l' := #[.val (.int p1), .val (.long q2), .second, .val (.long q3), .second, .val (.long q4), .second, .val (.long q5), .second, .val (.int vt), .val (.long tk), .second, .val (.long lp), .second, .unset, .unset, .unset, .unset, .unset, .unset, .unset, .unset, .unset, .unset, .unset, .unset, .unset, .unset, .unset]) rfl ?_
    show Steps p.tables e below (s₁.setTop (mkF m 26 #[.val (.int p1), .val (.long q2), .second, .val (.long q3), .second, .val (.long q4), .second, .val (.long q5), .second, .val (.int vt), .val (.long tk), .second, .val (.long lp), .second, .unset, .unset, .unset, .unset, .unset, .unset, .unset, .unset, .unset, .unset, .unset, .unset, .unset, .unset, .unset] [])) _
    refine XS.lloadN X0.here hx rfl (hb hby at_26) rfl ?_
    show Steps p.tables e below (s₁.setTop (mkF m 27 #[.val (.int p1), .val (.long q2), .second, .val (.long q3), .second, .val (.long q4), .second, .val (.long q5), .second, .val (.int vt), .val (.long tk), .second, .val (.long lp), .second, .unset, .unset, .unset, .unset, .unset, .unset, .unset, .unset, .unset, .unset, .unset, .unset, .unset, .unset, .unset] [(.long q2)])) _
    refine XS.lloadN X0.here hx rfl (hb hby at_27) rfl ?_
    show Steps p.tables e below (s₁.setTop (mkF m 28 #[.val (.int p1), .val (.long q2), .second, .val (.long q3), .second, .val (.long q4), .second, .val (.long q5), .second, .val (.int vt), .val (.long tk), .second, .val (.long lp), .second, .unset, .unset, .unset, .unset, .unset, .unset, .unset, .unset, .unset, .unset, .unset, .unset, .unset, .unset, .unset] [(.long q3), (.long q2)])) _
    refine XS.ladd X0.here hx rfl (hb hby at_28) rfl ?_
    show Steps p.tables e below (s₁.setTop (mkF m 29 #[.val (.int p1), .val (.long q2), .second, .val (.long q3), .second, .val (.long q4), .second, .val (.long q5), .second, .val (.int vt), .val (.long tk), .second, .val (.long lp), .second, .unset, .unset, .unset, .unset, .unset, .unset, .unset, .unset, .unset, .unset, .unset, .unset, .unset, .unset, .unset] [(.long (q2 + q3))])) _
    rw [hva]
    show Steps p.tables e below (s₁.setTop (mkF m 29 #[.val (.int p1), .val (.long q2), .second, .val (.long q3), .second, .val (.long q4), .second, .val (.long q5), .second, .val (.int vt), .val (.long tk), .second, .val (.long lp), .second, .unset, .unset, .unset, .unset, .unset, .unset, .unset, .unset, .unset, .unset, .unset, .unset, .unset, .unset, .unset] [(.long va)])) _
    refine XS.lstore X0.here hx rfl (hb hby at_29) rfl (l' := #[.val (.int p1), .val (.long q2), .second, .val (.long q3), .second, .val (.long q4), .second, .val (.long q5), .second, .val (.int vt), .val (.long tk), .second, .val (.long lp), .second, .val (.long va), .second, .unset, .unset, .unset, .unset, .unset, .unset, .unset, .unset, .unset, .unset, .unset, .unset, .unset]) rfl ?_
    show Steps p.tables e below (s₁.setTop (mkF m 31 #[.val (.int p1), .val (.long q2), .second, .val (.long q3), .second, .val (.long q4), .second, .val (.long q5), .second, .val (.int vt), .val (.long tk), .second, .val (.long lp), .second, .val (.long va), .second, .unset, .unset, .unset, .unset, .unset, .unset, .unset, .unset, .unset, .unset, .unset, .unset, .unset] [])) _
    refine XS.lload X0.here hx rfl (hb hby at_31) rfl ?_
    show Steps p.tables e below (s₁.setTop (mkF m 33 #[.val (.int p1), .val (.long q2), .second, .val (.long q3), .second, .val (.long q4), .second, .val (.long q5), .second, .val (.int vt), .val (.long tk), .second, .val (.long lp), .second, .val (.long va), .second, .unset, .unset, .unset, .unset, .unset, .unset, .unset, .unset, .unset, .unset, .unset, .unset, .unset] [(.long va)])) _
    refine XS.lload X0.here hx rfl (hb hby at_33) rfl ?_
    show Steps p.tables e below (s₁.setTop (mkF m 35 #[.val (.int p1), .val (.long q2), .second, .val (.long q3), .second, .val (.long q4), .second, .val (.long q5), .second, .val (.int vt), .val (.long tk), .second, .val (.long lp), .second, .val (.long va), .second, .unset, .unset, .unset, .unset, .unset, .unset, .unset, .unset, .unset, .unset, .unset, .unset, .unset] [(.long q4), (.long va)])) _
    refine XS.ladd X0.here hx rfl (hb hby at_35) rfl ?_
    show Steps p.tables e below (s₁.setTop (mkF m 36 #[.val (.int p1), .val (.long q2), .second, .val (.long q3), .second, .val (.long q4), .second, .val (.long q5), .second, .val (.int vt), .val (.long tk), .second, .val (.long lp), .second, .val (.long va), .second, .unset, .unset, .unset, .unset, .unset, .unset, .unset, .unset, .unset, .unset, .unset, .unset, .unset] [(.long (va + q4))])) _
    rw [hvb]
    show Steps p.tables e below (s₁.setTop (mkF m 36 #[.val (.int p1), .val (.long q2), .second, .val (.long q3), .second, .val (.long q4), .second, .val (.long q5), .second, .val (.int vt), .val (.long tk), .second, .val (.long lp), .second, .val (.long va), .second, .unset, .unset, .unset, .unset, .unset, .unset, .unset, .unset, .unset, .unset, .unset, .unset, .unset] [(.long vb)])) _
    refine XS.lstore X0.here hx rfl (hb hby at_36) rfl (l' := #[.val (.int p1), .val (.long q2), .second, .val (.long q3), .second, .val (.long q4), .second, .val (.long q5), .second, .val (.int vt), .val (.long tk), .second, .val (.long lp), .second, .val (.long va), .second, .val (.long vb), .second, .unset, .unset, .unset, .unset, .unset, .unset, .unset, .unset, .unset, .unset, .unset]) rfl ?_
    show Steps p.tables e below (s₁.setTop (mkF m 38 #[.val (.int p1), .val (.long q2), .second, .val (.long q3), .second, .val (.long q4), .second, .val (.long q5), .second, .val (.int vt), .val (.long tk), .second, .val (.long lp), .second, .val (.long va), .second, .val (.long vb), .second, .unset, .unset, .unset, .unset, .unset, .unset, .unset, .unset, .unset, .unset, .unset] [])) _
    refine XS.lload X0.here hx rfl (hb hby at_38) rfl ?_
    show Steps p.tables e below (s₁.setTop (mkF m 40 #[.val (.int p1), .val (.long q2), .second, .val (.long q3), .second, .val (.long q4), .second, .val (.long q5), .second, .val (.int vt), .val (.long tk), .second, .val (.long lp), .second, .val (.long va), .second, .val (.long vb), .second, .unset, .unset, .unset, .unset, .unset, .unset, .unset, .unset, .unset, .unset, .unset] [(.long vb)])) _
    refine XS.lload X0.here hx rfl (hb hby at_40) rfl ?_
    show Steps p.tables e below (s₁.setTop (mkF m 42 #[.val (.int p1), .val (.long q2), .second, .val (.long q3), .second, .val (.long q4), .second, .val (.long q5), .second, .val (.int vt), .val (.long tk), .second, .val (.long lp), .second, .val (.long va), .second, .val (.long vb), .second, .unset, .unset, .unset, .unset, .unset, .unset, .unset, .unset, .unset, .unset, .unset] [(.long q5), (.long vb)])) _
    refine XS.ladd X0.here hx rfl (hb hby at_42) rfl ?_
    show Steps p.tables e below (s₁.setTop (mkF m 43 #[.val (.int p1), .val (.long q2), .second, .val (.long q3), .second, .val (.long q4), .second, .val (.long q5), .second, .val (.int vt), .val (.long tk), .second, .val (.long lp), .second, .val (.long va), .second, .val (.long vb), .second, .unset, .unset, .unset, .unset, .unset, .unset, .unset, .unset, .unset, .unset, .unset] [(.long (vb + q5))])) _
    rw [hvn]
    show Steps p.tables e below (s₁.setTop (mkF m 43 #[.val (.int p1), .val (.long q2), .second, .val (.long q3), .second, .val (.long q4), .second, .val (.long q5), .second, .val (.int vt), .val (.long tk), .second, .val (.long lp), .second, .val (.long va), .second, .val (.long vb), .second, .unset, .unset, .unset, .unset, .unset, .unset, .unset, .unset, .unset, .unset, .unset] [(.long vn)])) _
    refine XS.lstore X0.here hx rfl (hb hby at_43) rfl (l' := #[.val (.int p1), .val (.long q2), .second, .val (.long q3), .second, .val (.long q4), .second, .val (.long q5), .second, .val (.int vt), .val (.long tk), .second, .val (.long lp), .second, .val (.long va), .second, .val (.long vb), .second, .val (.long vn), .second, .unset, .unset, .unset, .unset, .unset, .unset, .unset, .unset, .unset]) rfl ?_
    show Steps p.tables e below (s₁.setTop (mkF m 45 #[.val (.int p1), .val (.long q2), .second, .val (.long q3), .second, .val (.long q4), .second, .val (.long q5), .second, .val (.int vt), .val (.long tk), .second, .val (.long lp), .second, .val (.long va), .second, .val (.long vb), .second, .val (.long vn), .second, .unset, .unset, .unset, .unset, .unset, .unset, .unset, .unset, .unset] [])) _
    refine st1 _ ?_
    show Steps p.tables e below (T1.setTop (mkF m 48 #[.val (.int p1), .val (.long q2), .second, .val (.long q3), .second, .val (.long q4), .second, .val (.long q5), .second, .val (.int vt), .val (.long tk), .second, .val (.long lp), .second, .val (.long va), .second, .val (.long vb), .second, .val (.long vn), .second, .unset, .unset, .unset, .unset, .unset, .unset, .unset, .unset, .unset] [(.ref b1)])) _
    refine XS.dup X1.here hx rfl (hb hby at_48) rfl rfl ?_
    show Steps p.tables e below (T1.setTop (mkF m 49 #[.val (.int p1), .val (.long q2), .second, .val (.long q3), .second, .val (.long q4), .second, .val (.long q5), .second, .val (.int vt), .val (.long tk), .second, .val (.long lp), .second, .val (.long va), .second, .val (.long vb), .second, .val (.long vn), .second, .unset, .unset, .unset, .unset, .unset, .unset, .unset, .unset, .unset] [(.ref b1), (.ref b1)])) _
    refine XS.iload X1.here hx rfl (hb hby at_49) rfl ?_
    show Steps p.tables e below (T1.setTop (mkF m 51 #[.val (.int p1), .val (.long q2), .second, .val (.long q3), .second, .val (.long q4), .second, .val (.long q5), .second, .val (.int vt), .val (.long tk), .second, .val (.long lp), .second, .val (.long va), .second, .val (.long vb), .second, .val (.long vn), .second, .unset, .unset, .unset, .unset, .unset, .unset, .unset, .unset, .unset] [(.int vt), (.ref b1), (.ref b1)])) _
    refine st2.trans ?_
    show Steps p.tables e below (T2.setTop (mkF m 54 #[.val (.int p1), .val (.long q2), .second, .val (.long q3), .second, .val (.long q4), .second, .val (.long q5), .second, .val (.int vt), .val (.long tk), .second, .val (.long lp), .second, .val (.long va), .second, .val (.long vb), .second, .val (.long vn), .second, .unset, .unset, .unset, .unset, .unset, .unset, .unset, .unset, .unset] [(.ref b1)])) _
    refine XS.astore X2.here hx rfl (hb hby at_54) rfl rfl (l' := #[.val (.int p1), .val (.long q2), .second, .val (.long q3), .second, .val (.long q4), .second, .val (.long q5), .second, .val (.int vt), .val (.long tk), .second, .val (.long lp), .second, .val (.long va), .second, .val (.long vb), .second, .val (.long vn), .second, .val (.ref b1), .unset, .unset, .unset, .unset, .unset, .unset, .unset, .unset]) rfl ?_
    show Steps p.tables e below (T2.setTop (mkF m 56 #[.val (.int p1), .val (.long q2), .second, .val (.long q3), .second, .val (.long q4), .second, .val (.long q5), .second, .val (.int vt), .val (.long tk), .second, .val (.long lp), .second, .val (.long va), .second, .val (.long vb), .second, .val (.long vn), .second, .val (.ref b1), .unset, .unset, .unset, .unset, .unset, .unset, .unset, .unset] [])) _
    refine XS.aload X2.here hx rfl (hb hby at_56) rfl rfl ?_
    show Steps p.tables e below (T2.setTop (mkF m 58 #[.val (.int p1), .val (.long q2), .second, .val (.long q3), .second, .val (.long q4), .second, .val (.long q5), .second, .val (.int vt), .val (.long tk), .second, .val (.long lp), .second, .val (.long va), .second, .val (.long vb), .second, .val (.long vn), .second, .val (.ref b1), .unset, .unset, .unset, .unset, .unset, .unset, .unset, .unset] [(.ref b1)])) _
    refine st3 _ ?_
    show Steps p.tables e below (T3.setTop (mkF m 61 #[.val (.int p1), .val (.long q2), .second, .val (.long q3), .second, .val (.long q4), .second, .val (.long q5), .second, .val (.int vt), .val (.long tk), .second, .val (.long lp), .second, .val (.long va), .second, .val (.long vb), .second, .val (.long vn), .second, .val (.ref b1), .unset, .unset, .unset, .unset, .unset, .unset, .unset, .unset] [(.ref b3), (.ref b1)])) _
    refine XS.dup X3.here hx rfl (hb hby at_61) rfl rfl ?_
    show Steps p.tables e below (T3.setTop (mkF m 62 #[.val (.int p1), .val (.long q2), .second, .val (.long q3), .second, .val (.long q4), .second, .val (.long q5), .second, .val (.int vt), .val (.long tk), .second, .val (.long lp), .second, .val (.long va), .second, .val (.long vb), .second, .val (.long vn), .second, .val (.ref b1), .unset, .unset, .unset, .unset, .unset, .unset, .unset, .unset] [(.ref b3), (.ref b3), (.ref b1)])) _
    refine st4.trans ?_
    show Steps p.tables e below (T4.setTop (mkF m 65 #[.val (.int p1), .val (.long q2), .second, .val (.long q3), .second, .val (.long q4), .second, .val (.long q5), .second, .val (.int vt), .val (.long tk), .second, .val (.long lp), .second, .val (.long va), .second, .val (.long vb), .second, .val (.long vn), .second, .val (.ref b1), .unset, .unset, .unset, .unset, .unset, .unset, .unset, .unset] [(.ref b3), (.ref b1)])) _
    refine XS.lloadN X4.here hx rfl (hb hby at_65) rfl ?_
    show Steps p.tables e below (T4.setTop (mkF m 66 #[.val (.int p1), .val (.long q2), .second, .val (.long q3), .second, .val (.long q4), .second, .val (.long q5), .second, .val (.int vt), .val (.long tk), .second, .val (.long lp), .second, .val (.long va), .second, .val (.long vb), .second, .val (.long vn), .second, .val (.ref b1), .unset, .unset, .unset, .unset, .unset, .unset, .unset, .unset] [(.long q2), (.ref b3), (.ref b1)])) _
    refine st5.trans ?_
    show Steps p.tables e below (T5.setTop (mkF m 69 #[.val (.int p1), .val (.long q2), .second, .val (.long q3), .second, .val (.long q4), .second, .val (.long q5), .second, .val (.int vt), .val (.long tk), .second, .val (.long lp), .second, .val (.long va), .second, .val (.long vb), .second, .val (.long vn), .second, .val (.ref b1), .unset, .unset, .unset, .unset, .unset, .unset, .unset, .unset] [])) _
    refine XS.aload X5.here hx rfl (hb hby at_69) rfl rfl ?_
    show Steps p.tables e below (T5.setTop (mkF m 71 #[.val (.int p1), .val (.long q2), .second, .val (.long q3), .second, .val (.long q4), .second, .val (.long q5), .second, .val (.int vt), .val (.long tk), .second, .val (.long lp), .second, .val (.long va), .second, .val (.long vb), .second, .val (.long vn), .second, .val (.ref b1), .unset, .unset, .unset, .unset, .unset, .unset, .unset, .unset] [(.ref b1)])) _
    refine XS.lload X5.here hx rfl (hb hby at_71) rfl ?_
    show Steps p.tables e below (T5.setTop (mkF m 73 #[.val (.int p1), .val (.long q2), .second, .val (.long q3), .second, .val (.long q4), .second, .val (.long q5), .second, .val (.int vt), .val (.long tk), .second, .val (.long lp), .second, .val (.long va), .second, .val (.long vb), .second, .val (.long vn), .second, .val (.ref b1), .unset, .unset, .unset, .unset, .unset, .unset, .unset, .unset] [(.long va), (.ref b1)])) _
    refine st6.trans ?_
    show Steps p.tables e below (T6.setTop (mkF m 76 #[.val (.int p1), .val (.long q2), .second, .val (.long q3), .second, .val (.long q4), .second, .val (.long q5), .second, .val (.int vt), .val (.long tk), .second, .val (.long lp), .second, .val (.long va), .second, .val (.long vb), .second, .val (.long vn), .second, .val (.ref b1), .unset, .unset, .unset, .unset, .unset, .unset, .unset, .unset] [])) _
    refine XS.aload X6.here hx rfl (hb hby at_76) rfl rfl ?_
    show Steps p.tables e below (T6.setTop (mkF m 78 #[.val (.int p1), .val (.long q2), .second, .val (.long q3), .second, .val (.long q4), .second, .val (.long q5), .second, .val (.int vt), .val (.long tk), .second, .val (.long lp), .second, .val (.long va), .second, .val (.long vb), .second, .val (.long vn), .second, .val (.ref b1), .unset, .unset, .unset, .unset, .unset, .unset, .unset, .unset] [(.ref b1)])) _
    refine XS.lload X6.here hx rfl (hb hby at_78) rfl ?_
    show Steps p.tables e below (T6.setTop (mkF m 80 #[.val (.int p1), .val (.long q2), .second, .val (.long q3), .second, .val (.long q4), .second, .val (.long q5), .second, .val (.int vt), .val (.long tk), .second, .val (.long lp), .second, .val (.long va), .second, .val (.long vb), .second, .val (.long vn), .second, .val (.ref b1), .unset, .unset, .unset, .unset, .unset, .unset, .unset, .unset] [(.long vb), (.ref b1)])) _
    refine st7.trans ?_
    show Steps p.tables e below (T7.setTop (mkF m 83 #[.val (.int p1), .val (.long q2), .second, .val (.long q3), .second, .val (.long q4), .second, .val (.long q5), .second, .val (.int vt), .val (.long tk), .second, .val (.long lp), .second, .val (.long va), .second, .val (.long vb), .second, .val (.long vn), .second, .val (.ref b1), .unset, .unset, .unset, .unset, .unset, .unset, .unset, .unset] [])) _
    refine XS.lload X7.here hx rfl (hb hby at_83) rfl ?_
    show Steps p.tables e below (T7.setTop (mkF m 85 #[.val (.int p1), .val (.long q2), .second, .val (.long q3), .second, .val (.long q4), .second, .val (.long q5), .second, .val (.int vt), .val (.long tk), .second, .val (.long lp), .second, .val (.long va), .second, .val (.long vb), .second, .val (.long vn), .second, .val (.ref b1), .unset, .unset, .unset, .unset, .unset, .unset, .unset, .unset] [(.long va)])) _
    refine XS.lloadN X7.here hx rfl (hb hby at_85) rfl ?_
    show Steps p.tables e below (T7.setTop (mkF m 86 #[.val (.int p1), .val (.long q2), .second, .val (.long q3), .second, .val (.long q4), .second, .val (.long q5), .second, .val (.int vt), .val (.long tk), .second, .val (.long lp), .second, .val (.long va), .second, .val (.long vb), .second, .val (.long vn), .second, .val (.ref b1), .unset, .unset, .unset, .unset, .unset, .unset, .unset, .unset] [(.long q2), (.long va)])) _
    refine XS.lsub X7.here hx rfl (hb hby at_86) rfl ?_
    show Steps p.tables e below (T7.setTop (mkF m 87 #[.val (.int p1), .val (.long q2), .second, .val (.long q3), .second, .val (.long q4), .second, .val (.long q5), .second, .val (.int vt), .val (.long tk), .second, .val (.long lp), .second, .val (.long va), .second, .val (.long vb), .second, .val (.long vn), .second, .val (.ref b1), .unset, .unset, .unset, .unset, .unset, .unset, .unset, .unset] [(.long (va - q2))])) _
    refine XS.lload X7.here hx rfl (hb hby at_87) rfl ?_
    show Steps p.tables e below (T7.setTop (mkF m 89 #[.val (.int p1), .val (.long q2), .second, .val (.long q3), .second, .val (.long q4), .second, .val (.long q5), .second, .val (.int vt), .val (.long tk), .second, .val (.long lp), .second, .val (.long va), .second, .val (.long vb), .second, .val (.long vn), .second, .val (.ref b1), .unset, .unset, .unset, .unset, .unset, .unset, .unset, .unset] [(.long lp), (.long (va - q2))])) _
    refine XS.lcmp X7.here hx rfl (hb hby at_89) rfl ?_
    show Steps p.tables e below (T7.setTop (mkF m 90 #[.val (.int p1), .val (.long q2), .second, .val (.long q3), .second, .val (.long q4), .second, .val (.long q5), .second, .val (.int vt), .val (.long tk), .second, .val (.long lp), .second, .val (.long va), .second, .val (.long vb), .second, .val (.long vn), .second, .val (.ref b1), .unset, .unset, .unset, .unset, .unset, .unset, .unset, .unset] [(.int (lcmpW (va - q2) lp))])) _
    refine XS.ifYes X7.here hx rfl (pc0 := 90) (pc' := 101) rfl (hb hby at_90) rfl ((if0 _ _).trans (flt hc90).2.2.2) (by decide) (by decide) ?_
    show Steps p.tables e below (T7.setTop (mkF m 101 #[.val (.int p1), .val (.long q2), .second, .val (.long q3), .second, .val (.long q4), .second, .val (.long q5), .second, .val (.int vt), .val (.long tk), .second, .val (.long lp), .second, .val (.long va), .second, .val (.long vb), .second, .val (.long vn), .second, .val (.ref b1), .unset, .unset, .unset, .unset, .unset, .unset, .unset, .unset] [])) _
    refine XS.lloadN X7.here hx rfl (hb hby at_101) rfl ?_
    show Steps p.tables e below (T7.setTop (mkF m 102 #[.val (.int p1), .val (.long q2), .second, .val (.long q3), .second, .val (.long q4), .second, .val (.long q5), .second, .val (.int vt), .val (.long tk), .second, .val (.long lp), .second, .val (.long va), .second, .val (.long vb), .second, .val (.long vn), .second, .val (.ref b1), .unset, .unset, .unset, .unset, .unset, .unset, .unset, .unset] [(.long q2)])) _
    refine XS.lstore X7.here hx rfl (hb hby at_102) rfl (l' := #[.val (.int p1), .val (.long q2), .second, .val (.long q3), .second, .val (.long q4), .second, .val (.long q5), .second, .val (.int vt), .val (.long tk), .second, .val (.long lp), .second, .val (.long va), .second, .val (.long vb), .second, .val (.long vn), .second, .val (.ref b1), .val (.long q2), .second, .unset, .unset, .unset, .unset, .unset, .unset]) rfl ?_
    show Steps p.tables e below (T7.setTop (mkF m 104 #[.val (.int p1), .val (.long q2), .second, .val (.long q3), .second, .val (.long q4), .second, .val (.long q5), .second, .val (.int vt), .val (.long tk), .second, .val (.long lp), .second, .val (.long va), .second, .val (.long vb), .second, .val (.long vn), .second, .val (.ref b1), .val (.long q2), .second, .unset, .unset, .unset, .unset, .unset, .unset] [])) _
    refine XS.lload X7.here hx rfl (hb hby at_104) rfl ?_
    show Steps p.tables e below (T7.setTop (mkF m 106 #[.val (.int p1), .val (.long q2), .second, .val (.long q3), .second, .val (.long q4), .second, .val (.long q5), .second, .val (.int vt), .val (.long tk), .second, .val (.long lp), .second, .val (.long va), .second, .val (.long vb), .second, .val (.long vn), .second, .val (.ref b1), .val (.long q2), .second, .unset, .unset, .unset, .unset, .unset, .unset] [(.long vb)])) _
    refine XS.lload X7.here hx rfl (hb hby at_106) rfl ?_
    show Steps p.tables e below (T7.setTop (mkF m 108 #[.val (.int p1), .val (.long q2), .second, .val (.long q3), .second, .val (.long q4), .second, .val (.long q5), .second, .val (.int vt), .val (.long tk), .second, .val (.long lp), .second, .val (.long va), .second, .val (.long vb), .second, .val (.long vn), .second, .val (.ref b1), .val (.long q2), .second, .unset, .unset, .unset, .unset, .unset, .unset] [(.long va), (.long vb)])) _
    refine XS.lsub X7.here hx rfl (hb hby at_108) rfl ?_
    show Steps p.tables e below (T7.setTop (mkF m 109 #[.val (.int p1), .val (.long q2), .second, .val (.long q3), .second, .val (.long q4), .second, .val (.long q5), .second, .val (.int vt), .val (.long tk), .second, .val (.long lp), .second, .val (.long va), .second, .val (.long vb), .second, .val (.long vn), .second, .val (.ref b1), .val (.long q2), .second, .unset, .unset, .unset, .unset, .unset, .unset] [(.long (vb - va))])) _
    refine XS.lload X7.here hx rfl (hb hby at_109) rfl ?_
    show Steps p.tables e below (T7.setTop (mkF m 111 #[.val (.int p1), .val (.long q2), .second, .val (.long q3), .second, .val (.long q4), .second, .val (.long q5), .second, .val (.int vt), .val (.long tk), .second, .val (.long lp), .second, .val (.long va), .second, .val (.long vb), .second, .val (.long vn), .second, .val (.ref b1), .val (.long q2), .second, .unset, .unset, .unset, .unset, .unset, .unset] [(.long lp), (.long (vb - va))])) _
    refine XS.lcmp X7.here hx rfl (hb hby at_111) rfl ?_
    show Steps p.tables e below (T7.setTop (mkF m 112 #[.val (.int p1), .val (.long q2), .second, .val (.long q3), .second, .val (.long q4), .second, .val (.long q5), .second, .val (.int vt), .val (.long tk), .second, .val (.long lp), .second, .val (.long va), .second, .val (.long vb), .second, .val (.long vn), .second, .val (.ref b1), .val (.long q2), .second, .unset, .unset, .unset, .unset, .unset, .unset] [(.int (lcmpW (vb - va) lp))])) _
    refine XS.ifNo X7.here hx rfl (hb hby at_112) rfl ((if0 _ _).trans (tlt hc112).2.2.2) ?_
    show Steps p.tables e below (T7.setTop (mkF m 115 #[.val (.int p1), .val (.long q2), .second, .val (.long q3), .second, .val (.long q4), .second, .val (.long q5), .second, .val (.int vt), .val (.long tk), .second, .val (.long lp), .second, .val (.long va), .second, .val (.long vb), .second, .val (.long vn), .second, .val (.ref b1), .val (.long q2), .second, .unset, .unset, .unset, .unset, .unset, .unset] [])) _
    refine XS.lload X7.here hx rfl (hb hby at_115) rfl ?_
    show Steps p.tables e below (T7.setTop (mkF m 117 #[.val (.int p1), .val (.long q2), .second, .val (.long q3), .second, .val (.long q4), .second, .val (.long q5), .second, .val (.int vt), .val (.long tk), .second, .val (.long lp), .second, .val (.long va), .second, .val (.long vb), .second, .val (.long vn), .second, .val (.ref b1), .val (.long q2), .second, .unset, .unset, .unset, .unset, .unset, .unset] [(.long vb)])) _
    refine XS.lload X7.here hx rfl (hb hby at_117) rfl ?_
    show Steps p.tables e below (T7.setTop (mkF m 119 #[.val (.int p1), .val (.long q2), .second, .val (.long q3), .second, .val (.long q4), .second, .val (.long q5), .second, .val (.int vt), .val (.long tk), .second, .val (.long lp), .second, .val (.long va), .second, .val (.long vb), .second, .val (.long vn), .second, .val (.ref b1), .val (.long q2), .second, .unset, .unset, .unset, .unset, .unset, .unset] [(.long tk), (.long vb)])) _
    refine XS.ladd X7.here hx rfl (hb hby at_119) rfl ?_
    show Steps p.tables e below (T7.setTop (mkF m 120 #[.val (.int p1), .val (.long q2), .second, .val (.long q3), .second, .val (.long q4), .second, .val (.long q5), .second, .val (.int vt), .val (.long tk), .second, .val (.long lp), .second, .val (.long va), .second, .val (.long vb), .second, .val (.long vn), .second, .val (.ref b1), .val (.long q2), .second, .unset, .unset, .unset, .unset, .unset, .unset] [(.long (vb + tk))])) _
    rw [hcb]
    show Steps p.tables e below (T7.setTop (mkF m 120 #[.val (.int p1), .val (.long q2), .second, .val (.long q3), .second, .val (.long q4), .second, .val (.long q5), .second, .val (.int vt), .val (.long tk), .second, .val (.long lp), .second, .val (.long va), .second, .val (.long vb), .second, .val (.long vn), .second, .val (.ref b1), .val (.long q2), .second, .unset, .unset, .unset, .unset, .unset, .unset] [(.long cb)])) _
    refine XS.goto X7.here hx rfl (pc0 := 120) (pc' := 125) rfl (hb hby at_120) (by decide) (by decide) ?_
    show Steps p.tables e below (T7.setTop (mkF m 125 #[.val (.int p1), .val (.long q2), .second, .val (.long q3), .second, .val (.long q4), .second, .val (.long q5), .second, .val (.int vt), .val (.long tk), .second, .val (.long lp), .second, .val (.long va), .second, .val (.long vb), .second, .val (.long vn), .second, .val (.ref b1), .val (.long q2), .second, .unset, .unset, .unset, .unset, .unset, .unset] [(.long cb)])) _
    refine XS.lstore X7.here hx rfl (hb hby at_125) rfl (l' := #[.val (.int p1), .val (.long q2), .second, .val (.long q3), .second, .val (.long q4), .second, .val (.long q5), .second, .val (.int vt), .val (.long tk), .second, .val (.long lp), .second, .val (.long va), .second, .val (.long vb), .second, .val (.long vn), .second, .val (.ref b1), .val (.long q2), .second, .val (.long cb), .second, .unset, .unset, .unset, .unset]) rfl ?_
    show Steps p.tables e below (T7.setTop (mkF m 127 #[.val (.int p1), .val (.long q2), .second, .val (.long q3), .second, .val (.long q4), .second, .val (.long q5), .second, .val (.int vt), .val (.long tk), .second, .val (.long lp), .second, .val (.long va), .second, .val (.long vb), .second, .val (.long vn), .second, .val (.ref b1), .val (.long q2), .second, .val (.long cb), .second, .unset, .unset, .unset, .unset] [])) _
    refine XS.lload X7.here hx rfl (hb hby at_127) rfl ?_
    show Steps p.tables e below (T7.setTop (mkF m 129 #[.val (.int p1), .val (.long q2), .second, .val (.long q3), .second, .val (.long q4), .second, .val (.long q5), .second, .val (.int vt), .val (.long tk), .second, .val (.long lp), .second, .val (.long va), .second, .val (.long vb), .second, .val (.long vn), .second, .val (.ref b1), .val (.long q2), .second, .val (.long cb), .second, .unset, .unset, .unset, .unset] [(.long vb)])) _
    refine XS.lstore X7.here hx rfl (hb hby at_129) rfl (l' := #[.val (.int p1), .val (.long q2), .second, .val (.long q3), .second, .val (.long q4), .second, .val (.long q5), .second, .val (.int vt), .val (.long tk), .second, .val (.long lp), .second, .val (.long va), .second, .val (.long vb), .second, .val (.long vn), .second, .val (.ref b1), .val (.long q2), .second, .val (.long cb), .second, .val (.long vb), .second, .unset, .unset]) rfl ?_
    show Steps p.tables e below (T7.setTop (mkF m 131 #[.val (.int p1), .val (.long q2), .second, .val (.long q3), .second, .val (.long q4), .second, .val (.long q5), .second, .val (.int vt), .val (.long tk), .second, .val (.long lp), .second, .val (.long va), .second, .val (.long vb), .second, .val (.long vn), .second, .val (.ref b1), .val (.long q2), .second, .val (.long cb), .second, .val (.long vb), .second, .unset, .unset] [])) _
    refine XS.lload X7.here hx rfl (hb hby at_131) rfl ?_
    show Steps p.tables e below (T7.setTop (mkF m 133 #[.val (.int p1), .val (.long q2), .second, .val (.long q3), .second, .val (.long q4), .second, .val (.long q5), .second, .val (.int vt), .val (.long tk), .second, .val (.long lp), .second, .val (.long va), .second, .val (.long vb), .second, .val (.long vn), .second, .val (.ref b1), .val (.long q2), .second, .val (.long cb), .second, .val (.long vb), .second, .unset, .unset] [(.long cb)])) _
    refine XS.lload X7.here hx rfl (hb hby at_133) rfl ?_
    show Steps p.tables e below (T7.setTop (mkF m 135 #[.val (.int p1), .val (.long q2), .second, .val (.long q3), .second, .val (.long q4), .second, .val (.long q5), .second, .val (.int vt), .val (.long tk), .second, .val (.long lp), .second, .val (.long va), .second, .val (.long vb), .second, .val (.long vn), .second, .val (.ref b1), .val (.long q2), .second, .val (.long cb), .second, .val (.long vb), .second, .unset, .unset] [(.long tk), (.long cb)])) _
    refine XS.lsub X7.here hx rfl (hb hby at_135) rfl ?_
    show Steps p.tables e below (T7.setTop (mkF m 136 #[.val (.int p1), .val (.long q2), .second, .val (.long q3), .second, .val (.long q4), .second, .val (.long q5), .second, .val (.int vt), .val (.long tk), .second, .val (.long lp), .second, .val (.long va), .second, .val (.long vb), .second, .val (.long vn), .second, .val (.ref b1), .val (.long q2), .second, .val (.long cb), .second, .val (.long vb), .second, .unset, .unset] [(.long (cb - tk))])) _
    rw [hm1]
    show Steps p.tables e below (T7.setTop (mkF m 136 #[.val (.int p1), .val (.long q2), .second, .val (.long q3), .second, .val (.long q4), .second, .val (.long q5), .second, .val (.int vt), .val (.long tk), .second, .val (.long lp), .second, .val (.long va), .second, .val (.long vb), .second, .val (.long vn), .second, .val (.ref b1), .val (.long q2), .second, .val (.long cb), .second, .val (.long vb), .second, .unset, .unset] [(.long vm1)])) _
    refine XS.lconst X7.here hx rfl (hb hby at_136) ?_
    show Steps p.tables e below (T7.setTop (mkF m 137 #[.val (.int p1), .val (.long q2), .second, .val (.long q3), .second, .val (.long q4), .second, .val (.long q5), .second, .val (.int vt), .val (.long tk), .second, .val (.long lp), .second, .val (.long va), .second, .val (.long vb), .second, .val (.long vn), .second, .val (.ref b1), .val (.long q2), .second, .val (.long cb), .second, .val (.long vb), .second, .unset, .unset] [(.long 1), (.long vm1)])) _
    refine XS.lsub X7.here hx rfl (hb hby at_137) rfl ?_
    show Steps p.tables e below (T7.setTop (mkF m 138 #[.val (.int p1), .val (.long q2), .second, .val (.long q3), .second, .val (.long q4), .second, .val (.long q5), .second, .val (.int vt), .val (.long tk), .second, .val (.long lp), .second, .val (.long va), .second, .val (.long vb), .second, .val (.long vn), .second, .val (.ref b1), .val (.long q2), .second, .val (.long cb), .second, .val (.long vb), .second, .unset, .unset] [(.long (vm1 - (1 : Int64)))])) _
    rw [hm]
    show Steps p.tables e below (T7.setTop (mkF m 138 #[.val (.int p1), .val (.long q2), .second, .val (.long q3), .second, .val (.long q4), .second, .val (.long q5), .second, .val (.int vt), .val (.long tk), .second, .val (.long lp), .second, .val (.long va), .second, .val (.long vb), .second, .val (.long vn), .second, .val (.ref b1), .val (.long q2), .second, .val (.long cb), .second, .val (.long vb), .second, .unset, .unset] [(.long vmm)])) _
    refine XS.lstore X7.here hx rfl (hb hby at_138) rfl (l' := #[.val (.int p1), .val (.long q2), .second, .val (.long q3), .second, .val (.long q4), .second, .val (.long q5), .second, .val (.int vt), .val (.long tk), .second, .val (.long lp), .second, .val (.long va), .second, .val (.long vb), .second, .val (.long vn), .second, .val (.ref b1), .val (.long q2), .second, .val (.long cb), .second, .val (.long vb), .second, .val (.long vmm), .second]) rfl ?_
    show Steps p.tables e below (T7.setTop (mkF m 140 #[.val (.int p1), .val (.long q2), .second, .val (.long q3), .second, .val (.long q4), .second, .val (.long q5), .second, .val (.int vt), .val (.long tk), .second, .val (.long lp), .second, .val (.long va), .second, .val (.long vb), .second, .val (.long vn), .second, .val (.ref b1), .val (.long q2), .second, .val (.long cb), .second, .val (.long vb), .second, .val (.long vmm), .second] [])) _
    refine XS.aload X7.here hx rfl (hb hby at_140) rfl rfl ?_
    show Steps p.tables e below (T7.setTop (mkF m 142 #[.val (.int p1), .val (.long q2), .second, .val (.long q3), .second, .val (.long q4), .second, .val (.long q5), .second, .val (.int vt), .val (.long tk), .second, .val (.long lp), .second, .val (.long va), .second, .val (.long vb), .second, .val (.long vn), .second, .val (.ref b1), .val (.long q2), .second, .val (.long cb), .second, .val (.long vb), .second, .val (.long vmm), .second] [(.ref b1)])) _
    refine XS.lload X7.here hx rfl (hb hby at_142) rfl ?_
    show Steps p.tables e below (T7.setTop (mkF m 144 #[.val (.int p1), .val (.long q2), .second, .val (.long q3), .second, .val (.long q4), .second, .val (.long q5), .second, .val (.int vt), .val (.long tk), .second, .val (.long lp), .second, .val (.long va), .second, .val (.long vb), .second, .val (.long vn), .second, .val (.ref b1), .val (.long q2), .second, .val (.long cb), .second, .val (.long vb), .second, .val (.long vmm), .second] [(.long vn), (.ref b1)])) _
    refine st8.trans ?_
    show Steps p.tables e below (T8.setTop (mkF m 147 #[.val (.int p1), .val (.long q2), .second, .val (.long q3), .second, .val (.long q4), .second, .val (.long q5), .second, .val (.int vt), .val (.long tk), .second, .val (.long lp), .second, .val (.long va), .second, .val (.long vb), .second, .val (.long vn), .second, .val (.ref b1), .val (.long q2), .second, .val (.long cb), .second, .val (.long vb), .second, .val (.long vmm), .second] [(.long (own_ref vn vb cb tk lp))])) _
    refine XS.lload X8.here hx rfl (hb hby at_147) rfl ?_
    show Steps p.tables e below (T8.setTop (mkF m 149 #[.val (.int p1), .val (.long q2), .second, .val (.long q3), .second, .val (.long q4), .second, .val (.long q5), .second, .val (.int vt), .val (.long tk), .second, .val (.long lp), .second, .val (.long va), .second, .val (.long vb), .second, .val (.long vn), .second, .val (.ref b1), .val (.long q2), .second, .val (.long cb), .second, .val (.long vb), .second, .val (.long vmm), .second] [(.long vn), (.long (own_ref vn vb cb tk lp))])) _
    refine XS.lload X8.here hx rfl (hb hby at_149) rfl ?_
    show Steps p.tables e below (T8.setTop (mkF m 151 #[.val (.int p1), .val (.long q2), .second, .val (.long q3), .second, .val (.long q4), .second, .val (.long q5), .second, .val (.int vt), .val (.long tk), .second, .val (.long lp), .second, .val (.long va), .second, .val (.long vb), .second, .val (.long vn), .second, .val (.ref b1), .val (.long q2), .second, .val (.long cb), .second, .val (.long vb), .second, .val (.long vmm), .second] [(.long vb), (.long vn), (.long (own_ref vn vb cb tk lp))])) _
    refine XS.lload X8.here hx rfl (hb hby at_151) rfl ?_
    show Steps p.tables e below (T8.setTop (mkF m 153 #[.val (.int p1), .val (.long q2), .second, .val (.long q3), .second, .val (.long q4), .second, .val (.long q5), .second, .val (.int vt), .val (.long tk), .second, .val (.long lp), .second, .val (.long va), .second, .val (.long vb), .second, .val (.long vn), .second, .val (.ref b1), .val (.long q2), .second, .val (.long cb), .second, .val (.long vb), .second, .val (.long vmm), .second] [(.long cb), (.long vb), (.long vn), (.long (own_ref vn vb cb tk lp))])) _
    refine XS.lload X8.here hx rfl (hb hby at_153) rfl ?_
    show Steps p.tables e below (T8.setTop (mkF m 155 #[.val (.int p1), .val (.long q2), .second, .val (.long q3), .second, .val (.long q4), .second, .val (.long q5), .second, .val (.int vt), .val (.long tk), .second, .val (.long lp), .second, .val (.long va), .second, .val (.long vb), .second, .val (.long vn), .second, .val (.ref b1), .val (.long q2), .second, .val (.long cb), .second, .val (.long vb), .second, .val (.long vmm), .second] [(.long tk), (.long cb), (.long vb), (.long vn), (.long (own_ref vn vb cb tk lp))])) _
    refine XS.lload X8.here hx rfl (hb hby at_155) rfl ?_
    show Steps p.tables e below (T8.setTop (mkF m 157 #[.val (.int p1), .val (.long q2), .second, .val (.long q3), .second, .val (.long q4), .second, .val (.long q5), .second, .val (.int vt), .val (.long tk), .second, .val (.long lp), .second, .val (.long va), .second, .val (.long vb), .second, .val (.long vn), .second, .val (.ref b1), .val (.long q2), .second, .val (.long cb), .second, .val (.long vb), .second, .val (.long vmm), .second] [(.long lp), (.long tk), (.long cb), (.long vb), (.long vn), (.long (own_ref vn vb cb tk lp))])) _
    refine st9 _ ?_
    show Steps p.tables e below (T9.setTop (mkF m 160 #[.val (.int p1), .val (.long q2), .second, .val (.long q3), .second, .val (.long q4), .second, .val (.long q5), .second, .val (.int vt), .val (.long tk), .second, .val (.long lp), .second, .val (.long va), .second, .val (.long vb), .second, .val (.long vn), .second, .val (.ref b1), .val (.long q2), .second, .val (.long cb), .second, .val (.long vb), .second, .val (.long vmm), .second] [(.long (own_ref vn vb cb tk lp)), (.long (own_ref vn vb cb tk lp))])) _
    refine XS.lcmp X9.here hx rfl (hb hby at_160) rfl ?_
    show Steps p.tables e below (T9.setTop (mkF m 161 #[.val (.int p1), .val (.long q2), .second, .val (.long q3), .second, .val (.long q4), .second, .val (.long q5), .second, .val (.int vt), .val (.long tk), .second, .val (.long lp), .second, .val (.long va), .second, .val (.long vb), .second, .val (.long vn), .second, .val (.ref b1), .val (.long q2), .second, .val (.long cb), .second, .val (.long vb), .second, .val (.long vmm), .second] [(.int (lcmpW (own_ref vn vb cb tk lp) (own_ref vn vb cb tk lp)))])) _
    rw [own_lcmp0]
    show Steps p.tables e below (T9.setTop (mkF m 161 #[.val (.int p1), .val (.long q2), .second, .val (.long q3), .second, .val (.long q4), .second, .val (.long q5), .second, .val (.int vt), .val (.long tk), .second, .val (.long lp), .second, .val (.long va), .second, .val (.long vb), .second, .val (.long vn), .second, .val (.ref b1), .val (.long q2), .second, .val (.long cb), .second, .val (.long vb), .second, .val (.long vmm), .second] [(.int 0)])) _
    refine XS.ifNo X9.here hx rfl (hb hby at_161) rfl ((if0 _ _).trans (teq (by decide : (0 : Int32) = (0 : Int32))).2) ?_
    show Steps p.tables e below (T9.setTop (mkF m 164 #[.val (.int p1), .val (.long q2), .second, .val (.long q3), .second, .val (.long q4), .second, .val (.long q5), .second, .val (.int vt), .val (.long tk), .second, .val (.long lp), .second, .val (.long va), .second, .val (.long vb), .second, .val (.long vn), .second, .val (.ref b1), .val (.long q2), .second, .val (.long cb), .second, .val (.long vb), .second, .val (.long vmm), .second] [])) _
    refine XS.aload X9.here hx rfl (hb hby at_164) rfl rfl ?_
    show Steps p.tables e below (T9.setTop (mkF m 166 #[.val (.int p1), .val (.long q2), .second, .val (.long q3), .second, .val (.long q4), .second, .val (.long q5), .second, .val (.int vt), .val (.long tk), .second, .val (.long lp), .second, .val (.long va), .second, .val (.long vb), .second, .val (.long vn), .second, .val (.ref b1), .val (.long q2), .second, .val (.long cb), .second, .val (.long vb), .second, .val (.long vmm), .second] [(.ref b1)])) _
    refine XS.lload X9.here hx rfl (hb hby at_166) rfl ?_
    show Steps p.tables e below (T9.setTop (mkF m 168 #[.val (.int p1), .val (.long q2), .second, .val (.long q3), .second, .val (.long q4), .second, .val (.long q5), .second, .val (.int vt), .val (.long tk), .second, .val (.long lp), .second, .val (.long va), .second, .val (.long vb), .second, .val (.long vn), .second, .val (.ref b1), .val (.long q2), .second, .val (.long cb), .second, .val (.long vb), .second, .val (.long vmm), .second] [(.long vb), (.ref b1)])) _
    refine XS.lconst X9.here hx rfl (hb hby at_168) ?_
    show Steps p.tables e below (T9.setTop (mkF m 169 #[.val (.int p1), .val (.long q2), .second, .val (.long q3), .second, .val (.long q4), .second, .val (.long q5), .second, .val (.int vt), .val (.long tk), .second, .val (.long lp), .second, .val (.long va), .second, .val (.long vb), .second, .val (.long vn), .second, .val (.ref b1), .val (.long q2), .second, .val (.long cb), .second, .val (.long vb), .second, .val (.long vmm), .second] [(.long 1), (.long vb), (.ref b1)])) _
    refine XS.lsub X9.here hx rfl (hb hby at_169) rfl ?_
    show Steps p.tables e below (T9.setTop (mkF m 170 #[.val (.int p1), .val (.long q2), .second, .val (.long q3), .second, .val (.long q4), .second, .val (.long q5), .second, .val (.int vt), .val (.long tk), .second, .val (.long lp), .second, .val (.long va), .second, .val (.long vb), .second, .val (.long vn), .second, .val (.ref b1), .val (.long q2), .second, .val (.long cb), .second, .val (.long vb), .second, .val (.long vmm), .second] [(.long (vb - (1 : Int64))), (.ref b1)])) _
    rw [hbm]
    show Steps p.tables e below (T9.setTop (mkF m 170 #[.val (.int p1), .val (.long q2), .second, .val (.long q3), .second, .val (.long q4), .second, .val (.long q5), .second, .val (.int vt), .val (.long tk), .second, .val (.long lp), .second, .val (.long va), .second, .val (.long vb), .second, .val (.long vn), .second, .val (.ref b1), .val (.long q2), .second, .val (.long cb), .second, .val (.long vb), .second, .val (.long vmm), .second] [(.long bm), (.ref b1)])) _
    refine st10.trans ?_
    show Steps p.tables e below (T10.setTop (mkF m 173 #[.val (.int p1), .val (.long q2), .second, .val (.long q3), .second, .val (.long q4), .second, .val (.long q5), .second, .val (.int vt), .val (.long tk), .second, .val (.long lp), .second, .val (.long va), .second, .val (.long vb), .second, .val (.long vn), .second, .val (.ref b1), .val (.long q2), .second, .val (.long cb), .second, .val (.long vb), .second, .val (.long vmm), .second] [(.long (own_ref bm vb cb tk lp))])) _
    refine XS.lload X10.here hx rfl (hb hby at_173) rfl ?_
    show Steps p.tables e below (T10.setTop (mkF m 175 #[.val (.int p1), .val (.long q2), .second, .val (.long q3), .second, .val (.long q4), .second, .val (.long q5), .second, .val (.int vt), .val (.long tk), .second, .val (.long lp), .second, .val (.long va), .second, .val (.long vb), .second, .val (.long vn), .second, .val (.ref b1), .val (.long q2), .second, .val (.long cb), .second, .val (.long vb), .second, .val (.long vmm), .second] [(.long vb), (.long (own_ref bm vb cb tk lp))])) _
    refine XS.lconst X10.here hx rfl (hb hby at_175) ?_
    show Steps p.tables e below (T10.setTop (mkF m 176 #[.val (.int p1), .val (.long q2), .second, .val (.long q3), .second, .val (.long q4), .second, .val (.long q5), .second, .val (.int vt), .val (.long tk), .second, .val (.long lp), .second, .val (.long va), .second, .val (.long vb), .second, .val (.long vn), .second, .val (.ref b1), .val (.long q2), .second, .val (.long cb), .second, .val (.long vb), .second, .val (.long vmm), .second] [(.long 1), (.long vb), (.long (own_ref bm vb cb tk lp))])) _
    refine XS.lsub X10.here hx rfl (hb hby at_176) rfl ?_
    show Steps p.tables e below (T10.setTop (mkF m 177 #[.val (.int p1), .val (.long q2), .second, .val (.long q3), .second, .val (.long q4), .second, .val (.long q5), .second, .val (.int vt), .val (.long tk), .second, .val (.long lp), .second, .val (.long va), .second, .val (.long vb), .second, .val (.long vn), .second, .val (.ref b1), .val (.long q2), .second, .val (.long cb), .second, .val (.long vb), .second, .val (.long vmm), .second] [(.long (vb - (1 : Int64))), (.long (own_ref bm vb cb tk lp))])) _
    rw [hbm]
    show Steps p.tables e below (T10.setTop (mkF m 177 #[.val (.int p1), .val (.long q2), .second, .val (.long q3), .second, .val (.long q4), .second, .val (.long q5), .second, .val (.int vt), .val (.long tk), .second, .val (.long lp), .second, .val (.long va), .second, .val (.long vb), .second, .val (.long vn), .second, .val (.ref b1), .val (.long q2), .second, .val (.long cb), .second, .val (.long vb), .second, .val (.long vmm), .second] [(.long bm), (.long (own_ref bm vb cb tk lp))])) _
    refine XS.lload X10.here hx rfl (hb hby at_177) rfl ?_
    show Steps p.tables e below (T10.setTop (mkF m 179 #[.val (.int p1), .val (.long q2), .second, .val (.long q3), .second, .val (.long q4), .second, .val (.long q5), .second, .val (.int vt), .val (.long tk), .second, .val (.long lp), .second, .val (.long va), .second, .val (.long vb), .second, .val (.long vn), .second, .val (.ref b1), .val (.long q2), .second, .val (.long cb), .second, .val (.long vb), .second, .val (.long vmm), .second] [(.long vb), (.long bm), (.long (own_ref bm vb cb tk lp))])) _
    refine XS.lload X10.here hx rfl (hb hby at_179) rfl ?_
    show Steps p.tables e below (T10.setTop (mkF m 181 #[.val (.int p1), .val (.long q2), .second, .val (.long q3), .second, .val (.long q4), .second, .val (.long q5), .second, .val (.int vt), .val (.long tk), .second, .val (.long lp), .second, .val (.long va), .second, .val (.long vb), .second, .val (.long vn), .second, .val (.ref b1), .val (.long q2), .second, .val (.long cb), .second, .val (.long vb), .second, .val (.long vmm), .second] [(.long cb), (.long vb), (.long bm), (.long (own_ref bm vb cb tk lp))])) _
    refine XS.lload X10.here hx rfl (hb hby at_181) rfl ?_
    show Steps p.tables e below (T10.setTop (mkF m 183 #[.val (.int p1), .val (.long q2), .second, .val (.long q3), .second, .val (.long q4), .second, .val (.long q5), .second, .val (.int vt), .val (.long tk), .second, .val (.long lp), .second, .val (.long va), .second, .val (.long vb), .second, .val (.long vn), .second, .val (.ref b1), .val (.long q2), .second, .val (.long cb), .second, .val (.long vb), .second, .val (.long vmm), .second] [(.long tk), (.long cb), (.long vb), (.long bm), (.long (own_ref bm vb cb tk lp))])) _
    refine XS.lload X10.here hx rfl (hb hby at_183) rfl ?_
    show Steps p.tables e below (T10.setTop (mkF m 185 #[.val (.int p1), .val (.long q2), .second, .val (.long q3), .second, .val (.long q4), .second, .val (.long q5), .second, .val (.int vt), .val (.long tk), .second, .val (.long lp), .second, .val (.long va), .second, .val (.long vb), .second, .val (.long vn), .second, .val (.ref b1), .val (.long q2), .second, .val (.long cb), .second, .val (.long vb), .second, .val (.long vmm), .second] [(.long lp), (.long tk), (.long cb), (.long vb), (.long bm), (.long (own_ref bm vb cb tk lp))])) _
    refine st11 _ ?_
    show Steps p.tables e below (T11.setTop (mkF m 188 #[.val (.int p1), .val (.long q2), .second, .val (.long q3), .second, .val (.long q4), .second, .val (.long q5), .second, .val (.int vt), .val (.long tk), .second, .val (.long lp), .second, .val (.long va), .second, .val (.long vb), .second, .val (.long vn), .second, .val (.ref b1), .val (.long q2), .second, .val (.long cb), .second, .val (.long vb), .second, .val (.long vmm), .second] [(.long (own_ref bm vb cb tk lp)), (.long (own_ref bm vb cb tk lp))])) _
    refine XS.lcmp X11.here hx rfl (hb hby at_188) rfl ?_
    show Steps p.tables e below (T11.setTop (mkF m 189 #[.val (.int p1), .val (.long q2), .second, .val (.long q3), .second, .val (.long q4), .second, .val (.long q5), .second, .val (.int vt), .val (.long tk), .second, .val (.long lp), .second, .val (.long va), .second, .val (.long vb), .second, .val (.long vn), .second, .val (.ref b1), .val (.long q2), .second, .val (.long cb), .second, .val (.long vb), .second, .val (.long vmm), .second] [(.int (lcmpW (own_ref bm vb cb tk lp) (own_ref bm vb cb tk lp)))])) _
    rw [own_lcmp0]
    show Steps p.tables e below (T11.setTop (mkF m 189 #[.val (.int p1), .val (.long q2), .second, .val (.long q3), .second, .val (.long q4), .second, .val (.long q5), .second, .val (.int vt), .val (.long tk), .second, .val (.long lp), .second, .val (.long va), .second, .val (.long vb), .second, .val (.long vn), .second, .val (.ref b1), .val (.long q2), .second, .val (.long cb), .second, .val (.long vb), .second, .val (.long vmm), .second] [(.int 0)])) _
    refine XS.ifNo X11.here hx rfl (hb hby at_189) rfl ((if0 _ _).trans (teq (by decide : (0 : Int32) = (0 : Int32))).2) ?_
    show Steps p.tables e below (T11.setTop (mkF m 192 #[.val (.int p1), .val (.long q2), .second, .val (.long q3), .second, .val (.long q4), .second, .val (.long q5), .second, .val (.int vt), .val (.long tk), .second, .val (.long lp), .second, .val (.long va), .second, .val (.long vb), .second, .val (.long vn), .second, .val (.ref b1), .val (.long q2), .second, .val (.long cb), .second, .val (.long vb), .second, .val (.long vmm), .second] [])) _
    refine XS.aload X11.here hx rfl (hb hby at_192) rfl rfl ?_
    show Steps p.tables e below (T11.setTop (mkF m 194 #[.val (.int p1), .val (.long q2), .second, .val (.long q3), .second, .val (.long q4), .second, .val (.long q5), .second, .val (.int vt), .val (.long tk), .second, .val (.long lp), .second, .val (.long va), .second, .val (.long vb), .second, .val (.long vn), .second, .val (.ref b1), .val (.long q2), .second, .val (.long cb), .second, .val (.long vb), .second, .val (.long vmm), .second] [(.ref b1)])) _
    refine XS.lload X11.here hx rfl (hb hby at_194) rfl ?_
    show Steps p.tables e below (T11.setTop (mkF m 196 #[.val (.int p1), .val (.long q2), .second, .val (.long q3), .second, .val (.long q4), .second, .val (.long q5), .second, .val (.int vt), .val (.long tk), .second, .val (.long lp), .second, .val (.long va), .second, .val (.long vb), .second, .val (.long vn), .second, .val (.ref b1), .val (.long q2), .second, .val (.long cb), .second, .val (.long vb), .second, .val (.long vmm), .second] [(.long vb), (.ref b1)])) _
    refine XS.lload X11.here hx rfl (hb hby at_196) rfl ?_
    show Steps p.tables e below (T11.setTop (mkF m 198 #[.val (.int p1), .val (.long q2), .second, .val (.long q3), .second, .val (.long q4), .second, .val (.long q5), .second, .val (.int vt), .val (.long tk), .second, .val (.long lp), .second, .val (.long va), .second, .val (.long vb), .second, .val (.long vn), .second, .val (.ref b1), .val (.long q2), .second, .val (.long cb), .second, .val (.long vb), .second, .val (.long vmm), .second] [(.long lp), (.long vb), (.ref b1)])) _
    refine XS.ladd X11.here hx rfl (hb hby at_198) rfl ?_
    show Steps p.tables e below (T11.setTop (mkF m 199 #[.val (.int p1), .val (.long q2), .second, .val (.long q3), .second, .val (.long q4), .second, .val (.long q5), .second, .val (.int vt), .val (.long tk), .second, .val (.long lp), .second, .val (.long va), .second, .val (.long vb), .second, .val (.long vn), .second, .val (.ref b1), .val (.long q2), .second, .val (.long cb), .second, .val (.long vb), .second, .val (.long vmm), .second] [(.long (vb + lp)), (.ref b1)])) _
    rw [hbl]
    show Steps p.tables e below (T11.setTop (mkF m 199 #[.val (.int p1), .val (.long q2), .second, .val (.long q3), .second, .val (.long q4), .second, .val (.long q5), .second, .val (.int vt), .val (.long tk), .second, .val (.long lp), .second, .val (.long va), .second, .val (.long vb), .second, .val (.long vn), .second, .val (.ref b1), .val (.long q2), .second, .val (.long cb), .second, .val (.long vb), .second, .val (.long vmm), .second] [(.long bl), (.ref b1)])) _
    refine st12.trans ?_
    show Steps p.tables e below (T12.setTop (mkF m 202 #[.val (.int p1), .val (.long q2), .second, .val (.long q3), .second, .val (.long q4), .second, .val (.long q5), .second, .val (.int vt), .val (.long tk), .second, .val (.long lp), .second, .val (.long va), .second, .val (.long vb), .second, .val (.long vn), .second, .val (.ref b1), .val (.long q2), .second, .val (.long cb), .second, .val (.long vb), .second, .val (.long vmm), .second] [(.long (own_ref bl vb cb tk lp))])) _
    refine XS.lload X12.here hx rfl (hb hby at_202) rfl ?_
    show Steps p.tables e below (T12.setTop (mkF m 204 #[.val (.int p1), .val (.long q2), .second, .val (.long q3), .second, .val (.long q4), .second, .val (.long q5), .second, .val (.int vt), .val (.long tk), .second, .val (.long lp), .second, .val (.long va), .second, .val (.long vb), .second, .val (.long vn), .second, .val (.ref b1), .val (.long q2), .second, .val (.long cb), .second, .val (.long vb), .second, .val (.long vmm), .second] [(.long vb), (.long (own_ref bl vb cb tk lp))])) _
    refine XS.lload X12.here hx rfl (hb hby at_204) rfl ?_
    show Steps p.tables e below (T12.setTop (mkF m 206 #[.val (.int p1), .val (.long q2), .second, .val (.long q3), .second, .val (.long q4), .second, .val (.long q5), .second, .val (.int vt), .val (.long tk), .second, .val (.long lp), .second, .val (.long va), .second, .val (.long vb), .second, .val (.long vn), .second, .val (.ref b1), .val (.long q2), .second, .val (.long cb), .second, .val (.long vb), .second, .val (.long vmm), .second] [(.long lp), (.long vb), (.long (own_ref bl vb cb tk lp))])) _
    refine XS.ladd X12.here hx rfl (hb hby at_206) rfl ?_
    show Steps p.tables e below (T12.setTop (mkF m 207 #[.val (.int p1), .val (.long q2), .second, .val (.long q3), .second, .val (.long q4), .second, .val (.long q5), .second, .val (.int vt), .val (.long tk), .second, .val (.long lp), .second, .val (.long va), .second, .val (.long vb), .second, .val (.long vn), .second, .val (.ref b1), .val (.long q2), .second, .val (.long cb), .second, .val (.long vb), .second, .val (.long vmm), .second] [(.long (vb + lp)), (.long (own_ref bl vb cb tk lp))])) _
    rw [hbl]
    show Steps p.tables e below (T12.setTop (mkF m 207 #[.val (.int p1), .val (.long q2), .second, .val (.long q3), .second, .val (.long q4), .second, .val (.long q5), .second, .val (.int vt), .val (.long tk), .second, .val (.long lp), .second, .val (.long va), .second, .val (.long vb), .second, .val (.long vn), .second, .val (.ref b1), .val (.long q2), .second, .val (.long cb), .second, .val (.long vb), .second, .val (.long vmm), .second] [(.long bl), (.long (own_ref bl vb cb tk lp))])) _
    refine XS.lload X12.here hx rfl (hb hby at_207) rfl ?_
    show Steps p.tables e below (T12.setTop (mkF m 209 #[.val (.int p1), .val (.long q2), .second, .val (.long q3), .second, .val (.long q4), .second, .val (.long q5), .second, .val (.int vt), .val (.long tk), .second, .val (.long lp), .second, .val (.long va), .second, .val (.long vb), .second, .val (.long vn), .second, .val (.ref b1), .val (.long q2), .second, .val (.long cb), .second, .val (.long vb), .second, .val (.long vmm), .second] [(.long vb), (.long bl), (.long (own_ref bl vb cb tk lp))])) _
    refine XS.lload X12.here hx rfl (hb hby at_209) rfl ?_
    show Steps p.tables e below (T12.setTop (mkF m 211 #[.val (.int p1), .val (.long q2), .second, .val (.long q3), .second, .val (.long q4), .second, .val (.long q5), .second, .val (.int vt), .val (.long tk), .second, .val (.long lp), .second, .val (.long va), .second, .val (.long vb), .second, .val (.long vn), .second, .val (.ref b1), .val (.long q2), .second, .val (.long cb), .second, .val (.long vb), .second, .val (.long vmm), .second] [(.long cb), (.long vb), (.long bl), (.long (own_ref bl vb cb tk lp))])) _
    refine XS.lload X12.here hx rfl (hb hby at_211) rfl ?_
    show Steps p.tables e below (T12.setTop (mkF m 213 #[.val (.int p1), .val (.long q2), .second, .val (.long q3), .second, .val (.long q4), .second, .val (.long q5), .second, .val (.int vt), .val (.long tk), .second, .val (.long lp), .second, .val (.long va), .second, .val (.long vb), .second, .val (.long vn), .second, .val (.ref b1), .val (.long q2), .second, .val (.long cb), .second, .val (.long vb), .second, .val (.long vmm), .second] [(.long tk), (.long cb), (.long vb), (.long bl), (.long (own_ref bl vb cb tk lp))])) _
    refine XS.lload X12.here hx rfl (hb hby at_213) rfl ?_
    show Steps p.tables e below (T12.setTop (mkF m 215 #[.val (.int p1), .val (.long q2), .second, .val (.long q3), .second, .val (.long q4), .second, .val (.long q5), .second, .val (.int vt), .val (.long tk), .second, .val (.long lp), .second, .val (.long va), .second, .val (.long vb), .second, .val (.long vn), .second, .val (.ref b1), .val (.long q2), .second, .val (.long cb), .second, .val (.long vb), .second, .val (.long vmm), .second] [(.long lp), (.long tk), (.long cb), (.long vb), (.long bl), (.long (own_ref bl vb cb tk lp))])) _
    refine st13 _ ?_
    show Steps p.tables e below (T13.setTop (mkF m 218 #[.val (.int p1), .val (.long q2), .second, .val (.long q3), .second, .val (.long q4), .second, .val (.long q5), .second, .val (.int vt), .val (.long tk), .second, .val (.long lp), .second, .val (.long va), .second, .val (.long vb), .second, .val (.long vn), .second, .val (.ref b1), .val (.long q2), .second, .val (.long cb), .second, .val (.long vb), .second, .val (.long vmm), .second] [(.long (own_ref bl vb cb tk lp)), (.long (own_ref bl vb cb tk lp))])) _
    refine XS.lcmp X13.here hx rfl (hb hby at_218) rfl ?_
    show Steps p.tables e below (T13.setTop (mkF m 219 #[.val (.int p1), .val (.long q2), .second, .val (.long q3), .second, .val (.long q4), .second, .val (.long q5), .second, .val (.int vt), .val (.long tk), .second, .val (.long lp), .second, .val (.long va), .second, .val (.long vb), .second, .val (.long vn), .second, .val (.ref b1), .val (.long q2), .second, .val (.long cb), .second, .val (.long vb), .second, .val (.long vmm), .second] [(.int (lcmpW (own_ref bl vb cb tk lp) (own_ref bl vb cb tk lp)))])) _
    rw [own_lcmp0]
    show Steps p.tables e below (T13.setTop (mkF m 219 #[.val (.int p1), .val (.long q2), .second, .val (.long q3), .second, .val (.long q4), .second, .val (.long q5), .second, .val (.int vt), .val (.long tk), .second, .val (.long lp), .second, .val (.long va), .second, .val (.long vb), .second, .val (.long vn), .second, .val (.ref b1), .val (.long q2), .second, .val (.long cb), .second, .val (.long vb), .second, .val (.long vmm), .second] [(.int 0)])) _
    refine XS.ifNo X13.here hx rfl (hb hby at_219) rfl ((if0 _ _).trans (teq (by decide : (0 : Int32) = (0 : Int32))).2) ?_
    show Steps p.tables e below (T13.setTop (mkF m 222 #[.val (.int p1), .val (.long q2), .second, .val (.long q3), .second, .val (.long q4), .second, .val (.long q5), .second, .val (.int vt), .val (.long tk), .second, .val (.long lp), .second, .val (.long va), .second, .val (.long vb), .second, .val (.long vn), .second, .val (.ref b1), .val (.long q2), .second, .val (.long cb), .second, .val (.long vb), .second, .val (.long vmm), .second] [])) _
    refine XS.aload X13.here hx rfl (hb hby at_222) rfl rfl ?_
    show Steps p.tables e below (T13.setTop (mkF m 224 #[.val (.int p1), .val (.long q2), .second, .val (.long q3), .second, .val (.long q4), .second, .val (.long q5), .second, .val (.int vt), .val (.long tk), .second, .val (.long lp), .second, .val (.long va), .second, .val (.long vb), .second, .val (.long vn), .second, .val (.ref b1), .val (.long q2), .second, .val (.long cb), .second, .val (.long vb), .second, .val (.long vmm), .second] [(.ref b1)])) _
    refine XS.lload X13.here hx rfl (hb hby at_224) rfl ?_
    show Steps p.tables e below (T13.setTop (mkF m 226 #[.val (.int p1), .val (.long q2), .second, .val (.long q3), .second, .val (.long q4), .second, .val (.long q5), .second, .val (.int vt), .val (.long tk), .second, .val (.long lp), .second, .val (.long va), .second, .val (.long vb), .second, .val (.long vn), .second, .val (.ref b1), .val (.long q2), .second, .val (.long cb), .second, .val (.long vb), .second, .val (.long vmm), .second] [(.long vb), (.ref b1)])) _
    refine XS.lload X13.here hx rfl (hb hby at_226) rfl ?_
    show Steps p.tables e below (T13.setTop (mkF m 228 #[.val (.int p1), .val (.long q2), .second, .val (.long q3), .second, .val (.long q4), .second, .val (.long q5), .second, .val (.int vt), .val (.long tk), .second, .val (.long lp), .second, .val (.long va), .second, .val (.long vb), .second, .val (.long vn), .second, .val (.ref b1), .val (.long q2), .second, .val (.long cb), .second, .val (.long vb), .second, .val (.long vmm), .second] [(.long lp), (.long vb), (.ref b1)])) _
    refine XS.ladd X13.here hx rfl (hb hby at_228) rfl ?_
    show Steps p.tables e below (T13.setTop (mkF m 229 #[.val (.int p1), .val (.long q2), .second, .val (.long q3), .second, .val (.long q4), .second, .val (.long q5), .second, .val (.int vt), .val (.long tk), .second, .val (.long lp), .second, .val (.long va), .second, .val (.long vb), .second, .val (.long vn), .second, .val (.ref b1), .val (.long q2), .second, .val (.long cb), .second, .val (.long vb), .second, .val (.long vmm), .second] [(.long (vb + lp)), (.ref b1)])) _
    rw [hbl]
    show Steps p.tables e below (T13.setTop (mkF m 229 #[.val (.int p1), .val (.long q2), .second, .val (.long q3), .second, .val (.long q4), .second, .val (.long q5), .second, .val (.int vt), .val (.long tk), .second, .val (.long lp), .second, .val (.long va), .second, .val (.long vb), .second, .val (.long vn), .second, .val (.ref b1), .val (.long q2), .second, .val (.long cb), .second, .val (.long vb), .second, .val (.long vmm), .second] [(.long bl), (.ref b1)])) _
    refine XS.lconst X13.here hx rfl (hb hby at_229) ?_
    show Steps p.tables e below (T13.setTop (mkF m 230 #[.val (.int p1), .val (.long q2), .second, .val (.long q3), .second, .val (.long q4), .second, .val (.long q5), .second, .val (.int vt), .val (.long tk), .second, .val (.long lp), .second, .val (.long va), .second, .val (.long vb), .second, .val (.long vn), .second, .val (.ref b1), .val (.long q2), .second, .val (.long cb), .second, .val (.long vb), .second, .val (.long vmm), .second] [(.long 1), (.long bl), (.ref b1)])) _
    refine XS.ladd X13.here hx rfl (hb hby at_230) rfl ?_
    show Steps p.tables e below (T13.setTop (mkF m 231 #[.val (.int p1), .val (.long q2), .second, .val (.long q3), .second, .val (.long q4), .second, .val (.long q5), .second, .val (.int vt), .val (.long tk), .second, .val (.long lp), .second, .val (.long va), .second, .val (.long vb), .second, .val (.long vn), .second, .val (.ref b1), .val (.long q2), .second, .val (.long cb), .second, .val (.long vb), .second, .val (.long vmm), .second] [(.long (bl + (1 : Int64))), (.ref b1)])) _
    rw [hbl1]
    show Steps p.tables e below (T13.setTop (mkF m 231 #[.val (.int p1), .val (.long q2), .second, .val (.long q3), .second, .val (.long q4), .second, .val (.long q5), .second, .val (.int vt), .val (.long tk), .second, .val (.long lp), .second, .val (.long va), .second, .val (.long vb), .second, .val (.long vn), .second, .val (.ref b1), .val (.long q2), .second, .val (.long cb), .second, .val (.long vb), .second, .val (.long vmm), .second] [(.long bl1), (.ref b1)])) _
    refine st14.trans ?_
    show Steps p.tables e below (T14.setTop (mkF m 234 #[.val (.int p1), .val (.long q2), .second, .val (.long q3), .second, .val (.long q4), .second, .val (.long q5), .second, .val (.int vt), .val (.long tk), .second, .val (.long lp), .second, .val (.long va), .second, .val (.long vb), .second, .val (.long vn), .second, .val (.ref b1), .val (.long q2), .second, .val (.long cb), .second, .val (.long vb), .second, .val (.long vmm), .second] [(.long (own_ref bl1 vb cb tk lp))])) _
    refine XS.lload X14.here hx rfl (hb hby at_234) rfl ?_
    show Steps p.tables e below (T14.setTop (mkF m 236 #[.val (.int p1), .val (.long q2), .second, .val (.long q3), .second, .val (.long q4), .second, .val (.long q5), .second, .val (.int vt), .val (.long tk), .second, .val (.long lp), .second, .val (.long va), .second, .val (.long vb), .second, .val (.long vn), .second, .val (.ref b1), .val (.long q2), .second, .val (.long cb), .second, .val (.long vb), .second, .val (.long vmm), .second] [(.long vb), (.long (own_ref bl1 vb cb tk lp))])) _
    refine XS.lload X14.here hx rfl (hb hby at_236) rfl ?_
    show Steps p.tables e below (T14.setTop (mkF m 238 #[.val (.int p1), .val (.long q2), .second, .val (.long q3), .second, .val (.long q4), .second, .val (.long q5), .second, .val (.int vt), .val (.long tk), .second, .val (.long lp), .second, .val (.long va), .second, .val (.long vb), .second, .val (.long vn), .second, .val (.ref b1), .val (.long q2), .second, .val (.long cb), .second, .val (.long vb), .second, .val (.long vmm), .second] [(.long lp), (.long vb), (.long (own_ref bl1 vb cb tk lp))])) _
    refine XS.ladd X14.here hx rfl (hb hby at_238) rfl ?_
    show Steps p.tables e below (T14.setTop (mkF m 239 #[.val (.int p1), .val (.long q2), .second, .val (.long q3), .second, .val (.long q4), .second, .val (.long q5), .second, .val (.int vt), .val (.long tk), .second, .val (.long lp), .second, .val (.long va), .second, .val (.long vb), .second, .val (.long vn), .second, .val (.ref b1), .val (.long q2), .second, .val (.long cb), .second, .val (.long vb), .second, .val (.long vmm), .second] [(.long (vb + lp)), (.long (own_ref bl1 vb cb tk lp))])) _
    rw [hbl]
    show Steps p.tables e below (T14.setTop (mkF m 239 #[.val (.int p1), .val (.long q2), .second, .val (.long q3), .second, .val (.long q4), .second, .val (.long q5), .second, .val (.int vt), .val (.long tk), .second, .val (.long lp), .second, .val (.long va), .second, .val (.long vb), .second, .val (.long vn), .second, .val (.ref b1), .val (.long q2), .second, .val (.long cb), .second, .val (.long vb), .second, .val (.long vmm), .second] [(.long bl), (.long (own_ref bl1 vb cb tk lp))])) _
    refine XS.lconst X14.here hx rfl (hb hby at_239) ?_
    show Steps p.tables e below (T14.setTop (mkF m 240 #[.val (.int p1), .val (.long q2), .second, .val (.long q3), .second, .val (.long q4), .second, .val (.long q5), .second, .val (.int vt), .val (.long tk), .second, .val (.long lp), .second, .val (.long va), .second, .val (.long vb), .second, .val (.long vn), .second, .val (.ref b1), .val (.long q2), .second, .val (.long cb), .second, .val (.long vb), .second, .val (.long vmm), .second] [(.long 1), (.long bl), (.long (own_ref bl1 vb cb tk lp))])) _
    refine XS.ladd X14.here hx rfl (hb hby at_240) rfl ?_
    show Steps p.tables e below (T14.setTop (mkF m 241 #[.val (.int p1), .val (.long q2), .second, .val (.long q3), .second, .val (.long q4), .second, .val (.long q5), .second, .val (.int vt), .val (.long tk), .second, .val (.long lp), .second, .val (.long va), .second, .val (.long vb), .second, .val (.long vn), .second, .val (.ref b1), .val (.long q2), .second, .val (.long cb), .second, .val (.long vb), .second, .val (.long vmm), .second] [(.long (bl + (1 : Int64))), (.long (own_ref bl1 vb cb tk lp))])) _
    rw [hbl1]
    show Steps p.tables e below (T14.setTop (mkF m 241 #[.val (.int p1), .val (.long q2), .second, .val (.long q3), .second, .val (.long q4), .second, .val (.long q5), .second, .val (.int vt), .val (.long tk), .second, .val (.long lp), .second, .val (.long va), .second, .val (.long vb), .second, .val (.long vn), .second, .val (.ref b1), .val (.long q2), .second, .val (.long cb), .second, .val (.long vb), .second, .val (.long vmm), .second] [(.long bl1), (.long (own_ref bl1 vb cb tk lp))])) _
    refine XS.lload X14.here hx rfl (hb hby at_241) rfl ?_
    show Steps p.tables e below (T14.setTop (mkF m 243 #[.val (.int p1), .val (.long q2), .second, .val (.long q3), .second, .val (.long q4), .second, .val (.long q5), .second, .val (.int vt), .val (.long tk), .second, .val (.long lp), .second, .val (.long va), .second, .val (.long vb), .second, .val (.long vn), .second, .val (.ref b1), .val (.long q2), .second, .val (.long cb), .second, .val (.long vb), .second, .val (.long vmm), .second] [(.long vb), (.long bl1), (.long (own_ref bl1 vb cb tk lp))])) _
    refine XS.lload X14.here hx rfl (hb hby at_243) rfl ?_
    show Steps p.tables e below (T14.setTop (mkF m 245 #[.val (.int p1), .val (.long q2), .second, .val (.long q3), .second, .val (.long q4), .second, .val (.long q5), .second, .val (.int vt), .val (.long tk), .second, .val (.long lp), .second, .val (.long va), .second, .val (.long vb), .second, .val (.long vn), .second, .val (.ref b1), .val (.long q2), .second, .val (.long cb), .second, .val (.long vb), .second, .val (.long vmm), .second] [(.long cb), (.long vb), (.long bl1), (.long (own_ref bl1 vb cb tk lp))])) _
    refine XS.lload X14.here hx rfl (hb hby at_245) rfl ?_
    show Steps p.tables e below (T14.setTop (mkF m 247 #[.val (.int p1), .val (.long q2), .second, .val (.long q3), .second, .val (.long q4), .second, .val (.long q5), .second, .val (.int vt), .val (.long tk), .second, .val (.long lp), .second, .val (.long va), .second, .val (.long vb), .second, .val (.long vn), .second, .val (.ref b1), .val (.long q2), .second, .val (.long cb), .second, .val (.long vb), .second, .val (.long vmm), .second] [(.long tk), (.long cb), (.long vb), (.long bl1), (.long (own_ref bl1 vb cb tk lp))])) _
    refine XS.lload X14.here hx rfl (hb hby at_247) rfl ?_
    show Steps p.tables e below (T14.setTop (mkF m 249 #[.val (.int p1), .val (.long q2), .second, .val (.long q3), .second, .val (.long q4), .second, .val (.long q5), .second, .val (.int vt), .val (.long tk), .second, .val (.long lp), .second, .val (.long va), .second, .val (.long vb), .second, .val (.long vn), .second, .val (.ref b1), .val (.long q2), .second, .val (.long cb), .second, .val (.long vb), .second, .val (.long vmm), .second] [(.long lp), (.long tk), (.long cb), (.long vb), (.long bl1), (.long (own_ref bl1 vb cb tk lp))])) _
    refine st15 _ ?_
    show Steps p.tables e below (T15.setTop (mkF m 252 #[.val (.int p1), .val (.long q2), .second, .val (.long q3), .second, .val (.long q4), .second, .val (.long q5), .second, .val (.int vt), .val (.long tk), .second, .val (.long lp), .second, .val (.long va), .second, .val (.long vb), .second, .val (.long vn), .second, .val (.ref b1), .val (.long q2), .second, .val (.long cb), .second, .val (.long vb), .second, .val (.long vmm), .second] [(.long (own_ref bl1 vb cb tk lp)), (.long (own_ref bl1 vb cb tk lp))])) _
    refine XS.lcmp X15.here hx rfl (hb hby at_252) rfl ?_
    show Steps p.tables e below (T15.setTop (mkF m 253 #[.val (.int p1), .val (.long q2), .second, .val (.long q3), .second, .val (.long q4), .second, .val (.long q5), .second, .val (.int vt), .val (.long tk), .second, .val (.long lp), .second, .val (.long va), .second, .val (.long vb), .second, .val (.long vn), .second, .val (.ref b1), .val (.long q2), .second, .val (.long cb), .second, .val (.long vb), .second, .val (.long vmm), .second] [(.int (lcmpW (own_ref bl1 vb cb tk lp) (own_ref bl1 vb cb tk lp)))])) _
    rw [own_lcmp0]
    show Steps p.tables e below (T15.setTop (mkF m 253 #[.val (.int p1), .val (.long q2), .second, .val (.long q3), .second, .val (.long q4), .second, .val (.long q5), .second, .val (.int vt), .val (.long tk), .second, .val (.long lp), .second, .val (.long va), .second, .val (.long vb), .second, .val (.long vn), .second, .val (.ref b1), .val (.long q2), .second, .val (.long cb), .second, .val (.long vb), .second, .val (.long vmm), .second] [(.int 0)])) _
    refine XS.ifNo X15.here hx rfl (hb hby at_253) rfl ((if0 _ _).trans (teq (by decide : (0 : Int32) = (0 : Int32))).2) ?_
    show Steps p.tables e below (T15.setTop (mkF m 256 #[.val (.int p1), .val (.long q2), .second, .val (.long q3), .second, .val (.long q4), .second, .val (.long q5), .second, .val (.int vt), .val (.long tk), .second, .val (.long lp), .second, .val (.long va), .second, .val (.long vb), .second, .val (.long vn), .second, .val (.ref b1), .val (.long q2), .second, .val (.long cb), .second, .val (.long vb), .second, .val (.long vmm), .second] [])) _
    refine XS.aload X15.here hx rfl (hb hby at_256) rfl rfl ?_
    show Steps p.tables e below (T15.setTop (mkF m 258 #[.val (.int p1), .val (.long q2), .second, .val (.long q3), .second, .val (.long q4), .second, .val (.long q5), .second, .val (.int vt), .val (.long tk), .second, .val (.long lp), .second, .val (.long va), .second, .val (.long vb), .second, .val (.long vn), .second, .val (.ref b1), .val (.long q2), .second, .val (.long cb), .second, .val (.long vb), .second, .val (.long vmm), .second] [(.ref b1)])) _
    refine XS.lload X15.here hx rfl (hb hby at_258) rfl ?_
    show Steps p.tables e below (T15.setTop (mkF m 260 #[.val (.int p1), .val (.long q2), .second, .val (.long q3), .second, .val (.long q4), .second, .val (.long q5), .second, .val (.int vt), .val (.long tk), .second, .val (.long lp), .second, .val (.long va), .second, .val (.long vb), .second, .val (.long vn), .second, .val (.ref b1), .val (.long q2), .second, .val (.long cb), .second, .val (.long vb), .second, .val (.long vmm), .second] [(.long vmm), (.ref b1)])) _
    refine st16.trans ?_
    show Steps p.tables e below (T16.setTop (mkF m 263 #[.val (.int p1), .val (.long q2), .second, .val (.long q3), .second, .val (.long q4), .second, .val (.long q5), .second, .val (.int vt), .val (.long tk), .second, .val (.long lp), .second, .val (.long va), .second, .val (.long vb), .second, .val (.long vn), .second, .val (.ref b1), .val (.long q2), .second, .val (.long cb), .second, .val (.long vb), .second, .val (.long vmm), .second] [(.long (own_ref vmm vb cb tk lp))])) _
    refine XS.lload X16.here hx rfl (hb hby at_263) rfl ?_
    show Steps p.tables e below (T16.setTop (mkF m 265 #[.val (.int p1), .val (.long q2), .second, .val (.long q3), .second, .val (.long q4), .second, .val (.long q5), .second, .val (.int vt), .val (.long tk), .second, .val (.long lp), .second, .val (.long va), .second, .val (.long vb), .second, .val (.long vn), .second, .val (.ref b1), .val (.long q2), .second, .val (.long cb), .second, .val (.long vb), .second, .val (.long vmm), .second] [(.long vmm), (.long (own_ref vmm vb cb tk lp))])) _
    refine XS.lload X16.here hx rfl (hb hby at_265) rfl ?_
    show Steps p.tables e below (T16.setTop (mkF m 267 #[.val (.int p1), .val (.long q2), .second, .val (.long q3), .second, .val (.long q4), .second, .val (.long q5), .second, .val (.int vt), .val (.long tk), .second, .val (.long lp), .second, .val (.long va), .second, .val (.long vb), .second, .val (.long vn), .second, .val (.ref b1), .val (.long q2), .second, .val (.long cb), .second, .val (.long vb), .second, .val (.long vmm), .second] [(.long vb), (.long vmm), (.long (own_ref vmm vb cb tk lp))])) _
    refine XS.lload X16.here hx rfl (hb hby at_267) rfl ?_
    show Steps p.tables e below (T16.setTop (mkF m 269 #[.val (.int p1), .val (.long q2), .second, .val (.long q3), .second, .val (.long q4), .second, .val (.long q5), .second, .val (.int vt), .val (.long tk), .second, .val (.long lp), .second, .val (.long va), .second, .val (.long vb), .second, .val (.long vn), .second, .val (.ref b1), .val (.long q2), .second, .val (.long cb), .second, .val (.long vb), .second, .val (.long vmm), .second] [(.long cb), (.long vb), (.long vmm), (.long (own_ref vmm vb cb tk lp))])) _
    refine XS.lload X16.here hx rfl (hb hby at_269) rfl ?_
    show Steps p.tables e below (T16.setTop (mkF m 271 #[.val (.int p1), .val (.long q2), .second, .val (.long q3), .second, .val (.long q4), .second, .val (.long q5), .second, .val (.int vt), .val (.long tk), .second, .val (.long lp), .second, .val (.long va), .second, .val (.long vb), .second, .val (.long vn), .second, .val (.ref b1), .val (.long q2), .second, .val (.long cb), .second, .val (.long vb), .second, .val (.long vmm), .second] [(.long tk), (.long cb), (.long vb), (.long vmm), (.long (own_ref vmm vb cb tk lp))])) _
    refine XS.lload X16.here hx rfl (hb hby at_271) rfl ?_
    show Steps p.tables e below (T16.setTop (mkF m 273 #[.val (.int p1), .val (.long q2), .second, .val (.long q3), .second, .val (.long q4), .second, .val (.long q5), .second, .val (.int vt), .val (.long tk), .second, .val (.long lp), .second, .val (.long va), .second, .val (.long vb), .second, .val (.long vn), .second, .val (.ref b1), .val (.long q2), .second, .val (.long cb), .second, .val (.long vb), .second, .val (.long vmm), .second] [(.long lp), (.long tk), (.long cb), (.long vb), (.long vmm), (.long (own_ref vmm vb cb tk lp))])) _
    refine st17 _ ?_
    show Steps p.tables e below (T17.setTop (mkF m 276 #[.val (.int p1), .val (.long q2), .second, .val (.long q3), .second, .val (.long q4), .second, .val (.long q5), .second, .val (.int vt), .val (.long tk), .second, .val (.long lp), .second, .val (.long va), .second, .val (.long vb), .second, .val (.long vn), .second, .val (.ref b1), .val (.long q2), .second, .val (.long cb), .second, .val (.long vb), .second, .val (.long vmm), .second] [(.long (own_ref vmm vb cb tk lp)), (.long (own_ref vmm vb cb tk lp))])) _
    refine XS.lcmp X17.here hx rfl (hb hby at_276) rfl ?_
    show Steps p.tables e below (T17.setTop (mkF m 277 #[.val (.int p1), .val (.long q2), .second, .val (.long q3), .second, .val (.long q4), .second, .val (.long q5), .second, .val (.int vt), .val (.long tk), .second, .val (.long lp), .second, .val (.long va), .second, .val (.long vb), .second, .val (.long vn), .second, .val (.ref b1), .val (.long q2), .second, .val (.long cb), .second, .val (.long vb), .second, .val (.long vmm), .second] [(.int (lcmpW (own_ref vmm vb cb tk lp) (own_ref vmm vb cb tk lp)))])) _
    rw [own_lcmp0]
    show Steps p.tables e below (T17.setTop (mkF m 277 #[.val (.int p1), .val (.long q2), .second, .val (.long q3), .second, .val (.long q4), .second, .val (.long q5), .second, .val (.int vt), .val (.long tk), .second, .val (.long lp), .second, .val (.long va), .second, .val (.long vb), .second, .val (.long vn), .second, .val (.ref b1), .val (.long q2), .second, .val (.long cb), .second, .val (.long vb), .second, .val (.long vmm), .second] [(.int 0)])) _
    refine XS.ifNo X17.here hx rfl (hb hby at_277) rfl ((if0 _ _).trans (teq (by decide : (0 : Int32) = (0 : Int32))).2) ?_
    show Steps p.tables e below (T17.setTop (mkF m 280 #[.val (.int p1), .val (.long q2), .second, .val (.long q3), .second, .val (.long q4), .second, .val (.long q5), .second, .val (.int vt), .val (.long tk), .second, .val (.long lp), .second, .val (.long va), .second, .val (.long vb), .second, .val (.long vn), .second, .val (.ref b1), .val (.long q2), .second, .val (.long cb), .second, .val (.long vb), .second, .val (.long vmm), .second] [])) _
    refine XS.iconst X17.here hx rfl (hb hby at_280) ?_
    show Steps p.tables e below (T17.setTop (mkF m 281 #[.val (.int p1), .val (.long q2), .second, .val (.long q3), .second, .val (.long q4), .second, .val (.long q5), .second, .val (.int vt), .val (.long tk), .second, .val (.long lp), .second, .val (.long va), .second, .val (.long vb), .second, .val (.long vn), .second, .val (.ref b1), .val (.long q2), .second, .val (.long cb), .second, .val (.long vb), .second, .val (.long vmm), .second] [(.int 1)])) _
    refine XS.goto X17.here hx rfl (pc0 := 281) (pc' := 285) rfl (hb hby at_281) (by decide) (by decide) ?_
    show Steps p.tables e below (T17.setTop (mkF m 285 #[.val (.int p1), .val (.long q2), .second, .val (.long q3), .second, .val (.long q4), .second, .val (.long q5), .second, .val (.int vt), .val (.long tk), .second, .val (.long lp), .second, .val (.long va), .second, .val (.long vb), .second, .val (.long vn), .second, .val (.ref b1), .val (.long q2), .second, .val (.long cb), .second, .val (.long vb), .second, .val (.long vmm), .second] [(.int 1)])) _
    exact retN X17 hx (t := .boolean) Bd.returns (by simp) (hb hby at_285) hr
  · show Q0_klegt Z p1 q2 q3 q4 q5 vt tk lp va vb vn w_MILLISECONDS w_DEFAULTCAPACITY_EMPTY_ELEMENTDATA cb vm1 vmm bm bl bl1 h0 n0 _ T17.heap _
    rw [e17]
    exact ⟨rfl, N17, trivial⟩
def Q19_o1_vb_v3 (Z : State) (o1 : Addr) (vb : Int64) (va : Int64) (lp : Int64) (o2 : Addr) (o3 : Addr) (q2 : Int64) (tk : Int64) (h0 : Heap) (n0 : Nat) (v : Option Value) (h : Heap) (L : List Loc) : Prop := v = none ∧ Fr n0 L ∧ Keep h0 h [o1] ∧ Fld Z h o1 "com/example/epochcast/epochcast/server/SessionLeases" "lastHeartbeat" "J" (.long vb) ∧ Fld Z h o1 "com/example/epochcast/epochcast/server/SessionLeases" "lapse" "J" (.long lp) ∧ Exa Z h o1 "com/example/epochcast/epochcast/server/SessionLeases" ∧ Fld Z h o1 "com/example/epochcast/epochcast/server/SessionLeases" "leases" "Ljava/util/Map;" (.ref o2) ∧ Fld Z h o1 "com/example/epochcast/epochcast/server/SessionLeases" "due" "Ljava/util/PriorityQueue;" (.ref o3) ∧ Fld Z h o1 "com/example/epochcast/epochcast/server/SessionLeases" "countingFrom" "J" (.long q2) ∧ Fld Z h o1 "com/example/epochcast/epochcast/server/SessionLeases" "tick" "J" (.long tk)
set_option maxRecDepth 65536 in
set_option maxHeartbeats 40000000 in
theorem rm19_o1_vb_v3 (l : Launch) (Z : State) (a0 : Array Value) (hw : ∀ d ∈ tables_1, d.before a0 Z = true) (ws : List Jvm.Cond) (o1 : Addr) (vb : Int64) (va : Int64) (lp : Int64) (o2 : Addr) (o3 : Addr) (q2 : Int64) (tk : Int64) (h0 : Heap) (n0 : Nat) (Z0 : n0 ≤ h0.size) (F_lastHeartbeat_o1 : Fld Z h0 o1 "com/example/epochcast/epochcast/server/SessionLeases" "lastHeartbeat" "J" (.long va)) (F_lapse_o1 : Fld Z h0 o1 "com/example/epochcast/epochcast/server/SessionLeases" "lapse" "J" (.long lp)) (hc11 : ¬ ((0 : Int32) < (lcmpW (vb - va) lp))) (E_o1 : Exa Z h0 o1 "com/example/epochcast/epochcast/server/SessionLeases") (g_o1 : n0 ≤ o1) (F_leases_o1 : Fld Z h0 o1 "com/example/epochcast/epochcast/server/SessionLeases" "leases" "Ljava/util/Map;" (.ref o2)) (F_due_o1 : Fld Z h0 o1 "com/example/epochcast/epochcast/server/SessionLeases" "due" "Ljava/util/PriorityQueue;" (.ref o3)) (F_countingFrom_o1 : Fld Z h0 o1 "com/example/epochcast/epochcast/server/SessionLeases" "countingFrom" "J" (.long q2)) (F_tick_o1 : Fld Z h0 o1 "com/example/epochcast/epochcast/server/SessionLeases" "tick" "J" (.long tk)) :
    MetFree l (⟨"com/example/epochcast/epochcast/server/SessionLeases", "heartbeat", "(J)V"⟩ : MethodName) (head1 (Jvm.Cond.code (⟨"com/example/epochcast/epochcast/server/SessionLeases", "heartbeat", "(J)V"⟩ : MethodName) prog_190_method_3_code 3 none :: ws) ({ frames := 0, cells := 0, slots := 0, locals := 0 } : Room)) (fun a U => a = #[(.ref o1), (.long vb)] ∧ Z.Warmed39 U.vm ∧ U.heap = h0) (fun _ _ _ _ _ => True) (fun _ U o U' => ∃ v L, o = .returned v ∧ Q19_o1_vb_v3 Z o1 vb va lp o2 o3 q2 tk h0 n0 v U'.heap L ∧ FrameEnd U o U' L ({ frames := 0, cells := 0, slots := 0, locals := 0 } : Room).cells ({ frames := 0, cells := 0, slots := 0, locals := 0 } : Room).slots) := by
  refine MetFree.of_bodySF (plainFor_of_name pn_19) hisR ?_
  intro p e s m args below meth c s₁ Bd hml0 hP hK
  obtain ⟨rfl, hZ, hh⟩ := hP
  have hx := Bd.exec
  have hby := Bd.bytes
  have hml : c.maxLocals = 3 := hml0
  have hown : s.vm.findClass "com/example/epochcast/epochcast/server/SessionLeases" = some m.cls := findClass_of_methodNamed Bd.named
  have hnm := (name_of_methodNamed Bd.named Bd.method).1
  have X0 : Stand p l e ({ frames := 0, cells := 0, slots := 0, locals := 0 } : Room) s m #[(.ref o1), (.long vb)] below meth c s₁ [] 0 0 := Stand.of_body Bd
  have e0 : s₁.heap = h0 := by rw [← hh, Bd.state]; rfl
  have N0 := Fr.nil n0
  have pre0 : ∀ t, Steps p.tables e below (s₁.setTop (mkF m 0 #[.val (.ref o1), .val (.long vb), .second] [])) t → Steps p.tables e below (s₁.setTop (entryFrame m #[(.ref o1), (.long vb)] 3)) t := fun t k => castTop (by first | (simp [entryFrame, mkF, argsToLocals, Value.category]; done) | rfl) k
  obtain ⟨T1, X1, e1, st1⟩ := getF X0 hx hZ hown (host := "") (Or.inl (hw _ (List.mem_of_getElem? (i := 128) rfl))) Via.refl e0 F_lastHeartbeat_o1 (g := (mkF m 2 #[.val (.ref o1), .val (.long vb), .second] [(.ref o1), (.long vb)])) rfl rfl (hb hby d19_2)
  obtain ⟨T2, X2, e2, st2⟩ := getF X1 hx hZ hown (host := "") (Or.inl (hw _ (List.mem_of_getElem? (i := 75) rfl))) Via.refl e1 F_lapse_o1 (g := (mkF m 7 #[.val (.ref o1), .val (.long vb), .second] [(.ref o1), (.long (vb - va))])) rfl rfl (hb hby d19_7)
  obtain ⟨T3, h3, X3, e3, W3, st3⟩ := putF X2 hx hZ hown (host := "") (Or.inl (hw _ (List.mem_of_getElem? (i := 128) rfl))) Via.refl e2 F_lastHeartbeat_o1 E_o1 (Or.inl (hw _ (List.mem_of_getElem? (i := 129) rfl))) (hw _ (List.mem_of_getElem? (i := 4) rfl)) (ty := .long) (by decide) rfl rfl (g := (mkF m 26 #[.val (.ref o1), .val (.long vb), .second] [(.long vb), (.ref o1)])) rfl rfl (hb hby d19_26)
  have Fw3 := F_lastHeartbeat_o1.same W3
  have N3 := Fr.snoc X3 N0 g_o1
  have K3 : Keep h0 h3 [o1] := (Keep.refl h0 [o1]).wr W3 (Or.inl (List.mem_of_getElem? (i := 0) rfl))
  obtain ⟨fs, hr, hrun, hended, hW, hsame⟩ := X3.leave (v := none) (fun _ => rfl)
  refine ⟨_, _, pre0 _ ?_, hrun, hended, _, _, rfl, ?_, ⟨_, rfl⟩, hW, hsame.mono (by decide) (by decide)⟩
  · show Steps p.tables e below (s₁.setTop (mkF m 0 #[.val (.ref o1), .val (.long vb), .second] [])) _
    refine XS.lloadN X0.here hx rfl (hb hby d19_0) rfl ?_
    show Steps p.tables e below (s₁.setTop (mkF m 1 #[.val (.ref o1), .val (.long vb), .second] [(.long vb)])) _
    refine XS.aloadN X0.here hx rfl (hb hby d19_1) rfl rfl ?_
    show Steps p.tables e below (s₁.setTop (mkF m 2 #[.val (.ref o1), .val (.long vb), .second] [(.ref o1), (.long vb)])) _
    refine st1 _ ?_
    show Steps p.tables e below (T1.setTop (mkF m 5 #[.val (.ref o1), .val (.long vb), .second] [(.long va), (.long vb)])) _
    refine XS.lsub X1.here hx rfl (hb hby d19_5) rfl ?_
    show Steps p.tables e below (T1.setTop (mkF m 6 #[.val (.ref o1), .val (.long vb), .second] [(.long (vb - va))])) _
    refine XS.aloadN X1.here hx rfl (hb hby d19_6) rfl rfl ?_
    show Steps p.tables e below (T1.setTop (mkF m 7 #[.val (.ref o1), .val (.long vb), .second] [(.ref o1), (.long (vb - va))])) _
    refine st2 _ ?_
    show Steps p.tables e below (T2.setTop (mkF m 10 #[.val (.ref o1), .val (.long vb), .second] [(.long lp), (.long (vb - va))])) _
    refine XS.lcmp X2.here hx rfl (hb hby d19_10) rfl ?_
    show Steps p.tables e below (T2.setTop (mkF m 11 #[.val (.ref o1), .val (.long vb), .second] [(.int (lcmpW (vb - va) lp))])) _
    refine XS.ifYes X2.here hx rfl (pc0 := 11) (pc' := 24) rfl (hb hby d19_11) rfl ((if0 _ _).trans (flt hc11).2.2.2) (by decide) (by decide) ?_
    show Steps p.tables e below (T2.setTop (mkF m 24 #[.val (.ref o1), .val (.long vb), .second] [])) _
    refine XS.aloadN X2.here hx rfl (hb hby d19_24) rfl rfl ?_
    show Steps p.tables e below (T2.setTop (mkF m 25 #[.val (.ref o1), .val (.long vb), .second] [(.ref o1)])) _
    refine XS.lloadN X2.here hx rfl (hb hby d19_25) rfl ?_
    show Steps p.tables e below (T2.setTop (mkF m 26 #[.val (.ref o1), .val (.long vb), .second] [(.long vb), (.ref o1)])) _
    refine st3 _ ?_
    show Steps p.tables e below (T3.setTop (mkF m 29 #[.val (.ref o1), .val (.long vb), .second] [])) _
    exact X3.returnOut hx Bd.returns (hb hby d19_29) hr
  · show Q19_o1_vb_v3 Z o1 vb va lp o2 o3 q2 tk h0 n0 _ T3.heap _
    rw [e3]
    exact ⟨rfl, N3, K3, Fw3, (F_lapse_o1.other W3 (Or.inr (slot_ne (Or.inr (hw _ (List.mem_of_getElem? (i := 76) rfl))) (Or.inl (hw _ (List.mem_of_getElem? (i := 129) rfl))) (by decide) (t := .long) (t' := .long) (by decide) (by decide)))), (E_o1.wr W3), (F_leases_o1.other W3 (Or.inr (slot_ne (Or.inr (hw _ (List.mem_of_getElem? (i := 29) rfl))) (Or.inl (hw _ (List.mem_of_getElem? (i := 129) rfl))) (by decide) (t := (.object "java/util/Map")) (t' := .long) (by decide) (by decide)))), (F_due_o1.other W3 (Or.inr (slot_ne (Or.inr (hw _ (List.mem_of_getElem? (i := 60) rfl))) (Or.inl (hw _ (List.mem_of_getElem? (i := 129) rfl))) (by decide) (t := (.object "java/util/PriorityQueue")) (t' := .long) (by decide) (by decide)))), (F_countingFrom_o1.other W3 (Or.inr (slot_ne (Or.inl (hw _ (List.mem_of_getElem? (i := 131) rfl))) (Or.inl (hw _ (List.mem_of_getElem? (i := 129) rfl))) (by decide) (t := .long) (t' := .long) (by decide) (by decide)))), (F_tick_o1.other W3 (Or.inr (slot_ne (Or.inr (hw _ (List.mem_of_getElem? (i := 73) rfl))) (Or.inl (hw _ (List.mem_of_getElem? (i := 129) rfl))) (by decide) (t := .long) (t' := .long) (by decide) (by decide))))⟩
def Q0_klele (Z : State) (p1 : Int32) (q2 : Int64) (q3 : Int64) (q4 : Int64) (q5 : Int64) (vt : Int32) (tk : Int64) (lp : Int64) (va : Int64) (vb : Int64) (vn : Int64) (w_MILLISECONDS : Addr) (w_DEFAULTCAPACITY_EMPTY_ELEMENTDATA : Addr) (vm1 : Int64) (vmm : Int64) (bm : Int64) (bl : Int64) (bl1 : Int64) (h0 : Heap) (n0 : Nat) (v : Option Value) (h : Heap) (L : List Loc) : Prop := v = some (.int 1) ∧ Fr n0 L ∧ True
set_option maxRecDepth 65536 in
set_option maxHeartbeats 40000000 in
theorem rm0_klele (l : Launch) (Z : State) (a0 : Array Value) (hw : ∀ d ∈ tables_1, d.before a0 Z = true) (ws : List Jvm.Cond) (p1 : Int32) (q2 : Int64) (q3 : Int64) (q4 : Int64) (q5 : Int64) (vt : Int32) (tk : Int64) (lp : Int64) (va : Int64) (vb : Int64) (vn : Int64) (w_MILLISECONDS : Addr) (w_DEFAULTCAPACITY_EMPTY_ELEMENTDATA : Addr) (vm1 : Int64) (vmm : Int64) (bm : Int64) (bl : Int64) (bl1 : Int64) (h0 : Heap) (n0 : Nat) (Z0 : n0 ≤ h0.size) (ht : (p1 &&& (2147483647 : Int32)) = vt) (htk : ((vt.toInt64) * (1000000 : Int64)) = tk) (hlp : (tk + (tk / (4 : Int64))) = lp) (hva : (q2 + q3) = va) (hvb : (va + q4) = vb) (hvn : (vb + q5) = vn) (S_MILLISECONDS : Sta Z h0 "java/util/concurrent/TimeUnit" "MILLISECONDS" "Ljava/util/concurrent/TimeUnit;" (.ref w_MILLISECONDS)) (F_scale_w_MILLISECONDS : Fld Z h0 w_MILLISECONDS "java/util/concurrent/TimeUnit" "scale" "J" (.long 1000000)) (F_maxNanos_w_MILLISECONDS : Fld Z h0 w_MILLISECONDS "java/util/concurrent/TimeUnit" "maxNanos" "J" (.long 9223372036854)) (hc22 : ¬ ((0 : Int32) < (lcmpW (vt.toInt64) (9223372036854 : Int64)))) (hc34 : ¬ ((lcmpW (vt.toInt64) (-9223372036854 : Int64)) < (0 : Int32))) (E_w_MILLISECONDS : Exa Z h0 w_MILLISECONDS "java/util/concurrent/TimeUnit") (S_DEFAULTCAPACITY_EMPTY_ELEMENTDATA : Sta Z h0 "java/util/ArrayList" "DEFAULTCAPACITY_EMPTY_ELEMENTDATA" "[Ljava/lang/Object;" (.ref w_DEFAULTCAPACITY_EMPTY_ELEMENTDATA)) (hc11 : ¬ ((0 : Int32) < (lcmpW (va - q2) lp))) (hc11_o1_vb_v3 : ¬ ((0 : Int32) < (lcmpW (vb - va) lp))) (hc90 : ¬ ((0 : Int32) < (lcmpW (va - q2) lp))) (hc112 : ¬ ((0 : Int32) < (lcmpW (vb - va) lp))) (hm1 : (q2 - tk) = vm1) (hm : (vm1 - (1 : Int64)) = vmm) (hbm : (vb - (1 : Int64)) = bm) (hbl : (vb + lp) = bl) (hbl1 : (bl + (1 : Int64)) = bl1) :
    MetFree l x (head1 (Jvm.Cond.code x code maxLocals ret :: ws) room_1) (fun a U => a = #[(.int p1), (.long q2), (.long q3), (.long q4), (.long q5)] ∧ Z.Warmed39 U.vm ∧ U.heap = h0) (fun _ _ _ _ _ => True) (fun _ U o U' => ∃ v L, o = .returned v ∧ Q0_klele Z p1 q2 q3 q4 q5 vt tk lp va vb vn w_MILLISECONDS w_DEFAULTCAPACITY_EMPTY_ELEMENTDATA vm1 vmm bm bl bl1 h0 n0 v U'.heap L ∧ FrameEnd U o U' L room_1.cells room_1.slots) := by
  refine MetFree.of_bodySF (plainFor_of_name pn_0) hisR ?_
  intro p e s m args below meth c s₁ Bd hml0 hP hK
  obtain ⟨rfl, hZ, hh⟩ := hP
  have hx := Bd.exec
  have hby := Bd.bytes
  have hml : c.maxLocals = 29 := hml0
  have hown : s.vm.findClass "com/example/epochcast/epochcast/server/SessionLeasesHeartbeatPinLaw" = some m.cls := findClass_of_methodNamed Bd.named
  have hnm := (name_of_methodNamed Bd.named Bd.method).1
  have X0 : Stand p l e room_1 s m #[(.int p1), (.long q2), (.long q3), (.long q4), (.long q5)] below meth c s₁ [] 0 0 := Stand.of_body Bd
  have e0 : s₁.heap = h0 := by rw [← hh, Bd.state]; rfl
  have N0 := Fr.nil n0
  have pre0 : ∀ t, Steps p.tables e below (s₁.setTop (mkF m 0 #[.val (.int p1), .val (.long q2), .second, .val (.long q3), .second, .val (.long q4), .second, .val (.long q5), .second, .unset, .unset, .unset, .unset, .unset, .unset, .unset, .unset, .unset, .unset, .unset, .unset, .unset, .unset, .unset, .unset, .unset, .unset, .unset, .unset] [])) t → Steps p.tables e below (s₁.setTop (entryFrame m #[(.int p1), (.long q2), (.long q3), (.long q4), (.long q5)] maxLocals)) t := fun t k => castTop (by first | (simp [entryFrame, mkF, argsToLocals, Value.category, maxLocals]; done) | rfl) k
  obtain ⟨T1, h1, X1, e1, E1, A1, D1, -, st1⟩ := newO X0 hx hZ hown (hw _ (List.mem_of_getElem? (i := 3) rfl)) (hw _ (List.mem_of_getElem? (i := 4) rfl)) (hw _ (List.mem_of_getElem? (i := 5) rfl)) e0 (g := (mkF m 45 #[.val (.int p1), .val (.long q2), .second, .val (.long q3), .second, .val (.long q4), .second, .val (.long q5), .second, .val (.int vt), .val (.long tk), .second, .val (.long lp), .second, .val (.long va), .second, .val (.long vb), .second, .val (.long vn), .second, .unset, .unset, .unset, .unset, .unset, .unset, .unset, .unset, .unset] [])) rfl (hb hby at_45) (by decide) (by decide)
  obtain ⟨b1, g1⟩ : ∃ z, z = h0.size := ⟨_, rfl⟩
  have s_b1 : h0.size ≤ b1 := Nat.le_of_eq g1.symm
  have g_b1 : n0 ≤ b1 := Nat.le_trans Z0 s_b1
  have sz_b1 : h0.size ≤ b1 := s_b1
  rw [← g1] at A1 D1 st1
  have K1 : Keep h0 h1 [] := (Keep.refl h0 []).ext E1
  have F_leases_b1 : Fld Z h1 b1 "com/example/epochcast/epochcast/server/SessionLeases" "leases" "Ljava/util/Map;" .null := D1 (Or.inr (hw _ (List.mem_of_getElem? (i := 29) rfl))) (ty := (.object "java/util/Map")) (by decide)
  have F_due_b1 : Fld Z h1 b1 "com/example/epochcast/epochcast/server/SessionLeases" "due" "Ljava/util/PriorityQueue;" .null := D1 (Or.inr (hw _ (List.mem_of_getElem? (i := 60) rfl))) (ty := (.object "java/util/PriorityQueue")) (by decide)
  have F_tick_b1 : Fld Z h1 b1 "com/example/epochcast/epochcast/server/SessionLeases" "tick" "J" (.long 0) := D1 (Or.inr (hw _ (List.mem_of_getElem? (i := 73) rfl))) (ty := .long) (by decide)
  have F_lapse_b1 : Fld Z h1 b1 "com/example/epochcast/epochcast/server/SessionLeases" "lapse" "J" (.long 0) := D1 (Or.inr (hw _ (List.mem_of_getElem? (i := 76) rfl))) (ty := .long) (by decide)
  have F_lastHeartbeat_b1 : Fld Z h1 b1 "com/example/epochcast/epochcast/server/SessionLeases" "lastHeartbeat" "J" (.long 0) := D1 (Or.inl (hw _ (List.mem_of_getElem? (i := 129) rfl))) (ty := .long) (by decide)
  have F_countingFrom_b1 : Fld Z h1 b1 "com/example/epochcast/epochcast/server/SessionLeases" "countingFrom" "J" (.long 0) := D1 (Or.inl (hw _ (List.mem_of_getElem? (i := 131) rfl))) (ty := .long) (by decide)
  obtain ⟨_, _, ⟨T2, L2, k2, n2⟩, -, X2, ⟨Lc2, hQ2, l2, y2, z2⟩, st2⟩ := X1.specialBack hx (y := (⟨"com/example/epochcast/epochcast/server/SessionLeases", "<init>", "(I)V"⟩ : MethodName)) rfl hown (mvT hZ (hw _ (List.mem_of_getElem? (i := 6) rfl))) (mvT hZ (hw _ (List.mem_of_getElem? (i := 7) rfl))) (mvT hZ (hw _ (List.mem_of_getElem? (i := 8) rfl))) (by decide) (backOf (W := 1) (rm1_o1_vt l Z a0 hw [] b1 vt w_MILLISECONDS tk lp h1 n0 (Nat.le_trans Z0 K1.1) A1 F_leases_b1 g_b1 F_due_b1 (own_sta_keep S_MILLISECONDS K1) (F_scale_w_MILLISECONDS.keep K1 nin0) (Ne.symm (Nat.ne_of_lt (Nat.lt_of_lt_of_le (F_scale_w_MILLISECONDS).lt sz_b1))) (F_maxNanos_w_MILLISECONDS.keep K1 nin0) hc22 hc34 (E_w_MILLISECONDS.keep K1) htk F_tick_b1 hlp F_lapse_b1 F_lastHeartbeat_b1 F_countingFrom_b1) hZ (hw _ (List.mem_of_getElem? (i := 8) rfl)) (hw _ (List.mem_of_getElem? (i := 5) rfl)) (by decide) (by decide)) (g := (mkF m 51 #[.val (.int p1), .val (.long q2), .second, .val (.long q3), .second, .val (.long q4), .second, .val (.long q5), .second, .val (.int vt), .val (.long tk), .second, .val (.long lp), .second, .val (.long va), .second, .val (.long vb), .second, .val (.long vn), .second, .unset, .unset, .unset, .unset, .unset, .unset, .unset, .unset, .unset] [(.int vt), (.ref b1), (.ref b1)])) rfl (by rw [hml]; rfl) (Steps.refl _) (a := b1) (argsL := [(.int vt)]) (rest := [(.ref b1)]) (lenOf pd__I_V rfl) rfl (by show 2 * 0 + _ ≤ _; exact Nat.le_of_eq rfl) (hb hby at_51) (fun _ _ => ⟨rfl, e1, (by decide : 1 + 3 ≤ _), (by decide : 6 + 23 ≤ _)⟩)
  dsimp only [Pt.U, Pt.locs, Pt.cells, Pt.slots] at X2 l2 y2 z2 st2 hQ2
  subst l2 y2 z2
  obtain ⟨b2c1, b2c2, b2c3, kc2kd4, rfl, N2q, Kq2, s_b2c1, s_b2c2, s_b2c3, nq_b2c1_b2c2, nq_b2c1_b2c3, nq_b2c2_b2c3, fq2_0, fq2_1, fq2_2, fq2_3, fq2_4, fq2_5, fq2_6, fq2_7, fq2_8, fq2_9, fq2_10, fq2_11, fq2_12, fq2_13, fq2_14, fq2_15, fq2_16, fq2_17⟩ := hQ2
  have N2 := Fr.app N0 N2q
  have g_b2c1 : n0 ≤ b2c1 := Nat.le_trans (Nat.le_trans Z0 K1.1) s_b2c1
  have sz_b2c1 : h0.size ≤ b2c1 := Nat.le_trans K1.1 s_b2c1
  have g_b2c2 : n0 ≤ b2c2 := Nat.le_trans (Nat.le_trans Z0 K1.1) s_b2c2
  have sz_b2c2 : h0.size ≤ b2c2 := Nat.le_trans K1.1 s_b2c2
  have g_b2c3 : n0 ≤ b2c3 := Nat.le_trans (Nat.le_trans Z0 K1.1) s_b2c3
  have sz_b2c3 : h0.size ≤ b2c3 := Nat.le_trans K1.1 s_b2c3
  have K2 : Keep h0 T2.heap [] := K1.trans Kq2 (allS (Or.inr sz_b1) all0)
  obtain ⟨T3, h3, X3, e3, E3, A3, D3, -, st3⟩ := newO X2 hx hZ hown (hw _ (List.mem_of_getElem? (i := 77) rfl)) (hw _ (List.mem_of_getElem? (i := 78) rfl)) (hw _ (List.mem_of_getElem? (i := 79) rfl)) rfl (g := (mkF m 58 #[.val (.int p1), .val (.long q2), .second, .val (.long q3), .second, .val (.long q4), .second, .val (.long q5), .second, .val (.int vt), .val (.long tk), .second, .val (.long lp), .second, .val (.long va), .second, .val (.long vb), .second, .val (.long vn), .second, .val (.ref b1), .unset, .unset, .unset, .unset, .unset, .unset, .unset, .unset] [(.ref b1)])) rfl (hb hby at_58) (by decide) (by decide)
  obtain ⟨b3, g3⟩ : ∃ z, z = T2.heap.size := ⟨_, rfl⟩
  have s_b3 : T2.heap.size ≤ b3 := Nat.le_of_eq g3.symm
  have g_b3 : n0 ≤ b3 := Nat.le_trans (Nat.le_trans Z0 K2.1) s_b3
  have sz_b3 : h0.size ≤ b3 := Nat.le_trans K2.1 s_b3
  rw [← g3] at A3 D3 st3
  have K3 : Keep h0 h3 [] := K2.ext E3
  have F_modCount_b3 : Fld Z h3 b3 "java/util/AbstractList" "modCount" "I" (.int 0) := D3 (Or.inl (hw _ (List.mem_of_getElem? (i := 92) rfl))) (ty := .int) (by decide)
  have F_elementData_b3 : Fld Z h3 b3 "java/util/ArrayList" "elementData" "[Ljava/lang/Object;" .null := D3 (Or.inl (hw _ (List.mem_of_getElem? (i := 95) rfl))) (ty := (.array (.object "java/lang/Object"))) (by decide)
  have F_size_b3 : Fld Z h3 b3 "java/util/ArrayList" "size" "I" (.int 0) := D3 (Or.inl (hw _ (List.mem_of_getElem? (i := 169) rfl))) (ty := .int) (by decide)
  obtain ⟨_, _, ⟨T4, L4, k4, n4⟩, -, X4, ⟨Lc4, hQ4, l4, y4, z4⟩, st4⟩ := X3.specialBack hx (y := (⟨"java/util/ArrayList", "<init>", "()V"⟩ : MethodName)) rfl hown (mvT hZ (hw _ (List.mem_of_getElem? (i := 80) rfl))) (mvT hZ (hw _ (List.mem_of_getElem? (i := 81) rfl))) (mvT hZ (hw _ (List.mem_of_getElem? (i := 82) rfl))) (by decide) (backOf (W := 2) (rm10_o1 l Z a0 hw [] b3 w_DEFAULTCAPACITY_EMPTY_ELEMENTDATA h3 n0 (Nat.le_trans Z0 K3.1) A3 F_modCount_b3 g_b3 F_elementData_b3 F_size_b3 (own_sta_keep S_DEFAULTCAPACITY_EMPTY_ELEMENTDATA K3)) hZ (hw _ (List.mem_of_getElem? (i := 82) rfl)) (hw _ (List.mem_of_getElem? (i := 79) rfl)) (by decide) (by decide)) (g := (mkF m 62 #[.val (.int p1), .val (.long q2), .second, .val (.long q3), .second, .val (.long q4), .second, .val (.long q5), .second, .val (.int vt), .val (.long tk), .second, .val (.long lp), .second, .val (.long va), .second, .val (.long vb), .second, .val (.long vn), .second, .val (.ref b1), .unset, .unset, .unset, .unset, .unset, .unset, .unset, .unset] [(.ref b3), (.ref b3), (.ref b1)])) rfl (by rw [hml]; rfl) (Steps.refl _) (a := b3) (argsL := []) (rest := [(.ref b3), (.ref b1)]) (lenOf pd___V rfl) rfl (by show 2 * 0 + _ ≤ _; exact Nat.le_of_eq rfl) (hb hby at_62) (fun _ _ => ⟨rfl, e3, (by decide : 5 + 0 ≤ _), (by decide : 32 + 0 ≤ _)⟩)
  dsimp only [Pt.U, Pt.locs, Pt.cells, Pt.slots] at X4 l4 y4 z4 st4 hQ4
  subst l4 y4 z4
  obtain ⟨rfl, N4q, Kq4, fq4_0, fq4_1, fq4_2, fq4_3⟩ := hQ4
  have N4 := Fr.app N2 N4q
  have K4 : Keep h0 T4.heap [] := K3.trans Kq4 (allS (Or.inr sz_b3) all0)
  obtain ⟨cq5, kq5, q5a, q5b, q5c⟩ := isOf hZ rfl ((fq2_0.ext E3).keep Kq4)
  obtain ⟨_, _, ⟨T5, L5, k5, n5⟩, -, X5, ⟨Lc5, hQ5, l5, y5, z5⟩, st5⟩ := X4.virtualBack hx (y := (⟨"com/example/epochcast/epochcast/server/SessionLeases", "begin", "(Ljava/util/Collection;J)V"⟩ : MethodName)) (z := (⟨"com/example/epochcast/epochcast/server/SessionLeases", "begin", "(Ljava/util/Collection;J)V"⟩ : MethodName)) hown (mvT hZ (hw _ (List.mem_of_getElem? (i := 96) rfl))) (mvT hZ (hw _ (List.mem_of_getElem? (i := 97) rfl))) (notFace_of_selects (args := #[]) (mvT hZ (hw _ (List.mem_of_getElem? (i := 99) rfl)))) (mvT hZ (hw _ (List.mem_of_getElem? (i := 99) rfl))) (mvT hZ (hw _ (List.mem_of_getElem? (i := 98) rfl))) (by decide) (backOf (W := 0) (rm12_o1_o2_q2 l Z a0 hw [] b1 b3 q2 b2c1 b2c2 b2c3 tk lp T4.heap n0 (Nat.le_trans Z0 K4.1) ((fq2_1.ext E3).keep Kq4 (ninS (Nat.ne_of_lt (Nat.lt_of_lt_of_le (fq2_0).lt s_b3)) nin0)) ((fq2_9.ext E3).keep Kq4 (ninS (Nat.ne_of_lt (Nat.lt_of_lt_of_le (fq2_7).lt s_b3)) nin0)) ((fq2_7.ext E3).keep Kq4) g_b2c1 ((fq2_10.ext E3).keep Kq4 (ninS (Nat.ne_of_lt (Nat.lt_of_lt_of_le (fq2_7).lt s_b3)) nin0)) ((fq2_8.ext E3).keep Kq4 (ninS (Nat.ne_of_lt (Nat.lt_of_lt_of_le (fq2_7).lt s_b3)) nin0)) ((fq2_2.ext E3).keep Kq4 (ninS (Nat.ne_of_lt (Nat.lt_of_lt_of_le (fq2_0).lt s_b3)) nin0)) (Nat.ne_of_lt (Nat.lt_of_lt_of_le (A1).lt s_b2c1)) ((fq2_14.ext E3).keep Kq4 (ninS (Nat.ne_of_lt (Nat.lt_of_lt_of_le (fq2_11).lt s_b3)) nin0)) nq_b2c1_b2c2 ((fq2_11.ext E3).keep Kq4) g_b2c2 ((fq2_12.ext E3).keep Kq4 (ninS (Nat.ne_of_lt (Nat.lt_of_lt_of_le (fq2_11).lt s_b3)) nin0)) ((fq2_15.ext E3).keep Kq4 (ninS (Nat.ne_of_lt (Nat.lt_of_lt_of_le (fq2_11).lt s_b3)) nin0)) ((fq2_13.ext E3).keep Kq4 (ninS (Nat.ne_of_lt (Nat.lt_of_lt_of_le (fq2_11).lt s_b3)) nin0)) ((fq2_0.ext E3).keep Kq4) ((fq2_5.ext E3).keep Kq4 (ninS (Nat.ne_of_lt (Nat.lt_of_lt_of_le (fq2_0).lt s_b3)) nin0)) (Nat.ne_of_lt (Nat.lt_of_lt_of_le (A1).lt s_b2c2)) g_b1 ((fq2_6.ext E3).keep Kq4 (ninS (Nat.ne_of_lt (Nat.lt_of_lt_of_le (fq2_0).lt s_b3)) nin0)) fq4_1 (Ne.symm (Nat.ne_of_lt (Nat.lt_of_lt_of_le (fq2_11).lt s_b3))) (Ne.symm (Nat.ne_of_lt (Nat.lt_of_lt_of_le (fq2_7).lt s_b3))) (Nat.ne_of_lt (Nat.lt_of_lt_of_le (fq2_0).lt s_b3)) fq4_0 fq4_3 ((fq2_3.ext E3).keep Kq4 (ninS (Nat.ne_of_lt (Nat.lt_of_lt_of_le (fq2_0).lt s_b3)) nin0)) ((fq2_4.ext E3).keep Kq4 (ninS (Nat.ne_of_lt (Nat.lt_of_lt_of_le (fq2_0).lt s_b3)) nin0))) hZ (hw _ (List.mem_of_getElem? (i := 100) rfl)) (hw _ (List.mem_of_getElem? (i := 5) rfl)) (by decide) (by decide)) q5a q5c (g := (mkF m 66 #[.val (.int p1), .val (.long q2), .second, .val (.long q3), .second, .val (.long q4), .second, .val (.long q5), .second, .val (.int vt), .val (.long tk), .second, .val (.long lp), .second, .val (.long va), .second, .val (.long vb), .second, .val (.long vn), .second, .val (.ref b1), .unset, .unset, .unset, .unset, .unset, .unset, .unset, .unset] [(.long q2), (.ref b3), (.ref b1)])) rfl (by rw [hml]; rfl) (Steps.refl _) (argsL := [(.ref b3), (.long q2)]) (rest := []) (lenOf pd__Ljava_util_Collection_J_V rfl) rfl (by show 2 * 0 + _ ≤ _; exact Nat.le_of_eq rfl) (hb hby at_66) (fun _ _ => ⟨rfl, rfl, (by decide : 5 + 1 ≤ _), (by decide : 32 + 4 ≤ _)⟩)
  dsimp only [Pt.U, Pt.locs, Pt.cells, Pt.slots] at X5 l5 y5 z5 st5 hQ5
  subst l5 y5 z5
  obtain ⟨rfl, N5q, Kq5, fq5_0, fq5_1, fq5_2, fq5_3, fq5_4, fq5_5, fq5_6, fq5_7, fq5_8, fq5_9, fq5_10, fq5_11, fq5_12, fq5_13, fq5_14, fq5_15⟩ := hQ5
  have N5 := Fr.app N4 N5q
  have K5 : Keep h0 T5.heap [] := K4.trans Kq5 (allS (Or.inr sz_b2c1) (allS (Or.inr sz_b2c2) (allS (Or.inr sz_b1) all0)))
  obtain ⟨cq6, kq6, q6a, q6b, q6c⟩ := isOf hZ rfl fq5_11
  obtain ⟨_, _, ⟨T6, L6, k6, n6⟩, -, X6, ⟨Lc6, hQ6, l6, y6, z6⟩, st6⟩ := X5.virtualBack hx (y := (⟨"com/example/epochcast/epochcast/server/SessionLeases", "heartbeat", "(J)V"⟩ : MethodName)) (z := (⟨"com/example/epochcast/epochcast/server/SessionLeases", "heartbeat", "(J)V"⟩ : MethodName)) hown (mvT hZ (hw _ (List.mem_of_getElem? (i := 170) rfl))) (mvT hZ (hw _ (List.mem_of_getElem? (i := 171) rfl))) (notFace_of_selects (args := #[]) (mvT hZ (hw _ (List.mem_of_getElem? (i := 173) rfl)))) (mvT hZ (hw _ (List.mem_of_getElem? (i := 173) rfl))) (mvT hZ (hw _ (List.mem_of_getElem? (i := 172) rfl))) (by decide) (backOf (W := 0) (rm19_o1_va_v1 l Z a0 hw [] b1 va q2 lp b2c1 b2c2 tk T5.heap n0 (Nat.le_trans Z0 K5.1) fq5_12 fq5_15 hc11 fq5_11 g_b1 fq5_9 fq5_10 fq5_13 fq5_14) hZ (hw _ (List.mem_of_getElem? (i := 174) rfl)) (hw _ (List.mem_of_getElem? (i := 5) rfl)) (by decide) (by decide)) q6a q6c (g := (mkF m 73 #[.val (.int p1), .val (.long q2), .second, .val (.long q3), .second, .val (.long q4), .second, .val (.long q5), .second, .val (.int vt), .val (.long tk), .second, .val (.long lp), .second, .val (.long va), .second, .val (.long vb), .second, .val (.long vn), .second, .val (.ref b1), .unset, .unset, .unset, .unset, .unset, .unset, .unset, .unset] [(.long va), (.ref b1)])) rfl (by rw [hml]; rfl) (Steps.refl _) (argsL := [(.long va)]) (rest := []) (lenOf pd__J_V rfl) rfl (by show 2 * 0 + _ ≤ _; exact Nat.le_of_eq rfl) (hb hby at_73) (fun _ _ => ⟨rfl, rfl, (by decide : 6 + 0 ≤ _), (by decide : 36 + 0 ≤ _)⟩)
  dsimp only [Pt.U, Pt.locs, Pt.cells, Pt.slots] at X6 l6 y6 z6 st6 hQ6
  subst l6 y6 z6
  obtain ⟨rfl, N6q, Kq6, fq6_0, fq6_1, fq6_2, fq6_3, fq6_4, fq6_5, fq6_6⟩ := hQ6
  have N6 := Fr.app N5 N6q
  have K6 : Keep h0 T6.heap [] := K5.trans Kq6 (allS (Or.inr sz_b1) all0)
  obtain ⟨cq7, kq7, q7a, q7b, q7c⟩ := isOf hZ rfl fq6_2
  obtain ⟨_, _, ⟨T7, L7, k7, n7⟩, -, X7, ⟨Lc7, hQ7, l7, y7, z7⟩, st7⟩ := X6.virtualBack hx (y := (⟨"com/example/epochcast/epochcast/server/SessionLeases", "heartbeat", "(J)V"⟩ : MethodName)) (z := (⟨"com/example/epochcast/epochcast/server/SessionLeases", "heartbeat", "(J)V"⟩ : MethodName)) hown (mvT hZ (hw _ (List.mem_of_getElem? (i := 170) rfl))) (mvT hZ (hw _ (List.mem_of_getElem? (i := 171) rfl))) (notFace_of_selects (args := #[]) (mvT hZ (hw _ (List.mem_of_getElem? (i := 173) rfl)))) (mvT hZ (hw _ (List.mem_of_getElem? (i := 173) rfl))) (mvT hZ (hw _ (List.mem_of_getElem? (i := 172) rfl))) (by decide) (backOf (W := 0) (rm19_o1_vb_v3 l Z a0 hw [] b1 vb va lp b2c1 b2c2 q2 tk T6.heap n0 (Nat.le_trans Z0 K6.1) fq6_0 fq6_1 hc11_o1_vb_v3 fq6_2 g_b1 fq6_3 fq6_4 fq6_5 fq6_6) hZ (hw _ (List.mem_of_getElem? (i := 174) rfl)) (hw _ (List.mem_of_getElem? (i := 5) rfl)) (by decide) (by decide)) q7a q7c (g := (mkF m 80 #[.val (.int p1), .val (.long q2), .second, .val (.long q3), .second, .val (.long q4), .second, .val (.long q5), .second, .val (.int vt), .val (.long tk), .second, .val (.long lp), .second, .val (.long va), .second, .val (.long vb), .second, .val (.long vn), .second, .val (.ref b1), .unset, .unset, .unset, .unset, .unset, .unset, .unset, .unset] [(.long vb), (.ref b1)])) rfl (by rw [hml]; rfl) (Steps.refl _) (argsL := [(.long vb)]) (rest := []) (lenOf pd__J_V rfl) rfl (by show 2 * 0 + _ ≤ _; exact Nat.le_of_eq rfl) (hb hby at_80) (fun _ _ => ⟨rfl, rfl, (by decide : 6 + 0 ≤ _), (by decide : 36 + 0 ≤ _)⟩)
  dsimp only [Pt.U, Pt.locs, Pt.cells, Pt.slots] at X7 l7 y7 z7 st7 hQ7
  subst l7 y7 z7
  obtain ⟨rfl, N7q, Kq7, fq7_0, fq7_1, fq7_2, fq7_3, fq7_4, fq7_5, fq7_6⟩ := hQ7
  have N7 := Fr.app N6 N7q
  have K7 : Keep h0 T7.heap [] := K6.trans Kq7 (allS (Or.inr sz_b1) all0)
  obtain ⟨cq8, kq8, q8a, q8b, q8c⟩ := isOf hZ rfl fq7_2
  obtain ⟨_, _, ⟨T8, L8, k8, n8⟩, -, X8, ⟨Lc8, hQ8, l8, y8, z8⟩, st8⟩ := X7.virtualBack hx (y := (⟨"com/example/epochcast/epochcast/server/SessionLeases", "nextCheck", "(J)J"⟩ : MethodName)) (z := (⟨"com/example/epochcast/epochcast/server/SessionLeases", "nextCheck", "(J)J"⟩ : MethodName)) hown (mvT hZ (hw _ (List.mem_of_getElem? (i := 175) rfl))) (mvT hZ (hw _ (List.mem_of_getElem? (i := 176) rfl))) (notFace_of_selects (args := #[]) (mvT hZ (hw _ (List.mem_of_getElem? (i := 178) rfl)))) (mvT hZ (hw _ (List.mem_of_getElem? (i := 178) rfl))) (mvT hZ (hw _ (List.mem_of_getElem? (i := 177) rfl))) (by decide) (backOf (W := 0) (rm20_nx l Z a0 hw [] b1 vn tk vb lp q2 b2c2 b2c3 kc2kd4 T7.heap n0 (Nat.le_trans Z0 K7.1) fq7_6 fq7_0 fq7_1 fq7_4 ((fq5_6.keep Kq6 (ninS (Ne.symm (Nat.ne_of_lt (Nat.lt_of_lt_of_le (A1).lt s_b2c2))) nin0)).keep Kq7 (ninS (Ne.symm (Nat.ne_of_lt (Nat.lt_of_lt_of_le (A1).lt s_b2c2))) nin0)) (((((fq2_16.ext E3).keep Kq4 (ninS (Nat.ne_of_lt (Nat.lt_of_lt_of_le (fq2_16).lt s_b3)) nin0)).keep Kq5 (ninS (Ne.symm nq_b2c1_b2c3) (ninS (Ne.symm nq_b2c2_b2c3) (ninS (Ne.symm (Nat.ne_of_lt (Nat.lt_of_lt_of_le (A1).lt s_b2c3))) nin0)))).keep Kq6 (ninS (Ne.symm (Nat.ne_of_lt (Nat.lt_of_lt_of_le (A1).lt s_b2c3))) nin0)).keep Kq7 (ninS (Ne.symm (Nat.ne_of_lt (Nat.lt_of_lt_of_le (A1).lt s_b2c3))) nin0)) ((fq5_4.keep Kq6).keep Kq7) fq7_5) hZ (hw _ (List.mem_of_getElem? (i := 179) rfl)) (hw _ (List.mem_of_getElem? (i := 5) rfl)) (by decide) (by decide)) q8a q8c (g := (mkF m 144 #[.val (.int p1), .val (.long q2), .second, .val (.long q3), .second, .val (.long q4), .second, .val (.long q5), .second, .val (.int vt), .val (.long tk), .second, .val (.long lp), .second, .val (.long va), .second, .val (.long vb), .second, .val (.long vn), .second, .val (.ref b1), .val (.long q2), .second, .val (.long q2), .second, .val (.long vb), .second, .val (.long vmm), .second] [(.long vn), (.ref b1)])) rfl (by rw [hml]; rfl) (Steps.refl _) (argsL := [(.long vn)]) (rest := []) (lenOf pd__J_J rfl) rfl (by show 2 * 0 + _ ≤ _; exact Nat.le_of_eq rfl) (hb hby at_144) (fun _ _ => ⟨rfl, rfl, (by decide : 6 + 0 ≤ _), (by decide : 36 + 0 ≤ _)⟩)
  dsimp only [Pt.U, Pt.locs, Pt.cells, Pt.slots] at X8 l8 y8 z8 st8 hQ8
  subst l8 y8 z8
  obtain ⟨rfl, N8q, e8⟩ := hQ8
  have N8 := Fr.app N7 N8q
  obtain ⟨_, _, ⟨T9, L9, k9, n9⟩, -, X9, ⟨Lc9, hQ9, l9, y9, z9⟩, st9⟩ := Jvm.LawKit.callS X8 hx (y := (⟨"com/example/epochcast/epochcast/server/SessionLeasesHeartbeatPinLaw", "ref", "(JJJJJ)J"⟩ : MethodName)) hown (mvT hZ (hw _ (List.mem_of_getElem? (i := 180) rfl))) (mvT hZ (hw _ (List.mem_of_getElem? (i := 181) rfl))) (mvT hZ (hw _ (List.mem_of_getElem? (i := 182) rfl))) (mvT hZ (hw _ (List.mem_of_getElem? (i := 183) rfl))) (by decide) (backOf (W := 2) (rm21_rf l Z a0 hw [] vn vb q2 tk lp T7.heap n0 (Nat.le_trans Z0 K7.1)) hZ (hw _ (List.mem_of_getElem? (i := 183) rfl)) (hw _ (List.mem_of_getElem? (i := 182) rfl)) (by decide) (by decide)) (g := (mkF m 157 #[.val (.int p1), .val (.long q2), .second, .val (.long q3), .second, .val (.long q4), .second, .val (.long q5), .second, .val (.int vt), .val (.long tk), .second, .val (.long lp), .second, .val (.long va), .second, .val (.long vb), .second, .val (.long vn), .second, .val (.ref b1), .val (.long q2), .second, .val (.long q2), .second, .val (.long vb), .second, .val (.long vmm), .second] [(.long lp), (.long tk), (.long q2), (.long vb), (.long vn), (.long (own_ref vn vb q2 tk lp))])) rfl (by rw [hml]; rfl) (argsL := [(.long vn), (.long vb), (.long q2), (.long tk), (.long lp)]) (rest := [(.long (own_ref vn vb q2 tk lp))]) (lenOf pd__JJJJJ_J rfl) rfl (by show 2 * 0 + _ ≤ _; exact Nat.le_of_eq rfl) (hb hby at_157) (fun _ _ => ⟨rfl, e8, (by decide : 6 + 0 ≤ _), (by decide : 36 + 0 ≤ _)⟩)
  dsimp only [Pt.U, Pt.locs, Pt.cells, Pt.slots] at X9 l9 y9 z9 st9 hQ9
  subst l9 y9 z9
  obtain ⟨rfl, N9q, e9⟩ := hQ9
  have N9 := Fr.app N8 N9q
  obtain ⟨cq10, kq10, q10a, q10b, q10c⟩ := isOf hZ e9 fq7_2
  obtain ⟨_, _, ⟨T10, L10, k10, n10⟩, -, X10, ⟨Lc10, hQ10, l10, y10, z10⟩, st10⟩ := X9.virtualBack hx (y := (⟨"com/example/epochcast/epochcast/server/SessionLeases", "nextCheck", "(J)J"⟩ : MethodName)) (z := (⟨"com/example/epochcast/epochcast/server/SessionLeases", "nextCheck", "(J)J"⟩ : MethodName)) hown (mvT hZ (hw _ (List.mem_of_getElem? (i := 175) rfl))) (mvT hZ (hw _ (List.mem_of_getElem? (i := 176) rfl))) (notFace_of_selects (args := #[]) (mvT hZ (hw _ (List.mem_of_getElem? (i := 178) rfl)))) (mvT hZ (hw _ (List.mem_of_getElem? (i := 178) rfl))) (mvT hZ (hw _ (List.mem_of_getElem? (i := 177) rfl))) (by decide) (backOf (W := 0) (rm20_nx l Z a0 hw [] b1 bm tk vb lp q2 b2c2 b2c3 kc2kd4 T7.heap n0 (Nat.le_trans Z0 K7.1) fq7_6 fq7_0 fq7_1 fq7_4 ((fq5_6.keep Kq6 (ninS (Ne.symm (Nat.ne_of_lt (Nat.lt_of_lt_of_le (A1).lt s_b2c2))) nin0)).keep Kq7 (ninS (Ne.symm (Nat.ne_of_lt (Nat.lt_of_lt_of_le (A1).lt s_b2c2))) nin0)) (((((fq2_16.ext E3).keep Kq4 (ninS (Nat.ne_of_lt (Nat.lt_of_lt_of_le (fq2_16).lt s_b3)) nin0)).keep Kq5 (ninS (Ne.symm nq_b2c1_b2c3) (ninS (Ne.symm nq_b2c2_b2c3) (ninS (Ne.symm (Nat.ne_of_lt (Nat.lt_of_lt_of_le (A1).lt s_b2c3))) nin0)))).keep Kq6 (ninS (Ne.symm (Nat.ne_of_lt (Nat.lt_of_lt_of_le (A1).lt s_b2c3))) nin0)).keep Kq7 (ninS (Ne.symm (Nat.ne_of_lt (Nat.lt_of_lt_of_le (A1).lt s_b2c3))) nin0)) ((fq5_4.keep Kq6).keep Kq7) fq7_5) hZ (hw _ (List.mem_of_getElem? (i := 179) rfl)) (hw _ (List.mem_of_getElem? (i := 5) rfl)) (by decide) (by decide)) q10a q10c (g := (mkF m 170 #[.val (.int p1), .val (.long q2), .second, .val (.long q3), .second, .val (.long q4), .second, .val (.long q5), .second, .val (.int vt), .val (.long tk), .second, .val (.long lp), .second, .val (.long va), .second, .val (.long vb), .second, .val (.long vn), .second, .val (.ref b1), .val (.long q2), .second, .val (.long q2), .second, .val (.long vb), .second, .val (.long vmm), .second] [(.long bm), (.ref b1)])) rfl (by rw [hml]; rfl) (Steps.refl _) (argsL := [(.long bm)]) (rest := []) (lenOf pd__J_J rfl) rfl (by show 2 * 0 + _ ≤ _; exact Nat.le_of_eq rfl) (hb hby at_170) (fun _ _ => ⟨rfl, e9, (by decide : 6 + 0 ≤ _), (by decide : 36 + 0 ≤ _)⟩)
  dsimp only [Pt.U, Pt.locs, Pt.cells, Pt.slots] at X10 l10 y10 z10 st10 hQ10
  subst l10 y10 z10
  obtain ⟨rfl, N10q, e10⟩ := hQ10
  have N10 := Fr.app N9 N10q
  obtain ⟨_, _, ⟨T11, L11, k11, n11⟩, -, X11, ⟨Lc11, hQ11, l11, y11, z11⟩, st11⟩ := Jvm.LawKit.callS X10 hx (y := (⟨"com/example/epochcast/epochcast/server/SessionLeasesHeartbeatPinLaw", "ref", "(JJJJJ)J"⟩ : MethodName)) hown (mvT hZ (hw _ (List.mem_of_getElem? (i := 180) rfl))) (mvT hZ (hw _ (List.mem_of_getElem? (i := 181) rfl))) (mvT hZ (hw _ (List.mem_of_getElem? (i := 182) rfl))) (mvT hZ (hw _ (List.mem_of_getElem? (i := 183) rfl))) (by decide) (backOf (W := 2) (rm21_rf l Z a0 hw [] bm vb q2 tk lp T7.heap n0 (Nat.le_trans Z0 K7.1)) hZ (hw _ (List.mem_of_getElem? (i := 183) rfl)) (hw _ (List.mem_of_getElem? (i := 182) rfl)) (by decide) (by decide)) (g := (mkF m 185 #[.val (.int p1), .val (.long q2), .second, .val (.long q3), .second, .val (.long q4), .second, .val (.long q5), .second, .val (.int vt), .val (.long tk), .second, .val (.long lp), .second, .val (.long va), .second, .val (.long vb), .second, .val (.long vn), .second, .val (.ref b1), .val (.long q2), .second, .val (.long q2), .second, .val (.long vb), .second, .val (.long vmm), .second] [(.long lp), (.long tk), (.long q2), (.long vb), (.long bm), (.long (own_ref bm vb q2 tk lp))])) rfl (by rw [hml]; rfl) (argsL := [(.long bm), (.long vb), (.long q2), (.long tk), (.long lp)]) (rest := [(.long (own_ref bm vb q2 tk lp))]) (lenOf pd__JJJJJ_J rfl) rfl (by show 2 * 0 + _ ≤ _; exact Nat.le_of_eq rfl) (hb hby at_185) (fun _ _ => ⟨rfl, e10, (by decide : 6 + 0 ≤ _), (by decide : 36 + 0 ≤ _)⟩)
  dsimp only [Pt.U, Pt.locs, Pt.cells, Pt.slots] at X11 l11 y11 z11 st11 hQ11
  subst l11 y11 z11
  obtain ⟨rfl, N11q, e11⟩ := hQ11
  have N11 := Fr.app N10 N11q
  obtain ⟨cq12, kq12, q12a, q12b, q12c⟩ := isOf hZ e11 fq7_2
  obtain ⟨_, _, ⟨T12, L12, k12, n12⟩, -, X12, ⟨Lc12, hQ12, l12, y12, z12⟩, st12⟩ := X11.virtualBack hx (y := (⟨"com/example/epochcast/epochcast/server/SessionLeases", "nextCheck", "(J)J"⟩ : MethodName)) (z := (⟨"com/example/epochcast/epochcast/server/SessionLeases", "nextCheck", "(J)J"⟩ : MethodName)) hown (mvT hZ (hw _ (List.mem_of_getElem? (i := 175) rfl))) (mvT hZ (hw _ (List.mem_of_getElem? (i := 176) rfl))) (notFace_of_selects (args := #[]) (mvT hZ (hw _ (List.mem_of_getElem? (i := 178) rfl)))) (mvT hZ (hw _ (List.mem_of_getElem? (i := 178) rfl))) (mvT hZ (hw _ (List.mem_of_getElem? (i := 177) rfl))) (by decide) (backOf (W := 0) (rm20_nx l Z a0 hw [] b1 bl tk vb lp q2 b2c2 b2c3 kc2kd4 T7.heap n0 (Nat.le_trans Z0 K7.1) fq7_6 fq7_0 fq7_1 fq7_4 ((fq5_6.keep Kq6 (ninS (Ne.symm (Nat.ne_of_lt (Nat.lt_of_lt_of_le (A1).lt s_b2c2))) nin0)).keep Kq7 (ninS (Ne.symm (Nat.ne_of_lt (Nat.lt_of_lt_of_le (A1).lt s_b2c2))) nin0)) (((((fq2_16.ext E3).keep Kq4 (ninS (Nat.ne_of_lt (Nat.lt_of_lt_of_le (fq2_16).lt s_b3)) nin0)).keep Kq5 (ninS (Ne.symm nq_b2c1_b2c3) (ninS (Ne.symm nq_b2c2_b2c3) (ninS (Ne.symm (Nat.ne_of_lt (Nat.lt_of_lt_of_le (A1).lt s_b2c3))) nin0)))).keep Kq6 (ninS (Ne.symm (Nat.ne_of_lt (Nat.lt_of_lt_of_le (A1).lt s_b2c3))) nin0)).keep Kq7 (ninS (Ne.symm (Nat.ne_of_lt (Nat.lt_of_lt_of_le (A1).lt s_b2c3))) nin0)) ((fq5_4.keep Kq6).keep Kq7) fq7_5) hZ (hw _ (List.mem_of_getElem? (i := 179) rfl)) (hw _ (List.mem_of_getElem? (i := 5) rfl)) (by decide) (by decide)) q12a q12c (g := (mkF m 199 #[.val (.int p1), .val (.long q2), .second, .val (.long q3), .second, .val (.long q4), .second, .val (.long q5), .second, .val (.int vt), .val (.long tk), .second, .val (.long lp), .second, .val (.long va), .second, .val (.long vb), .second, .val (.long vn), .second, .val (.ref b1), .val (.long q2), .second, .val (.long q2), .second, .val (.long vb), .second, .val (.long vmm), .second] [(.long bl), (.ref b1)])) rfl (by rw [hml]; rfl) (Steps.refl _) (argsL := [(.long bl)]) (rest := []) (lenOf pd__J_J rfl) rfl (by show 2 * 0 + _ ≤ _; exact Nat.le_of_eq rfl) (hb hby at_199) (fun _ _ => ⟨rfl, e11, (by decide : 6 + 0 ≤ _), (by decide : 36 + 0 ≤ _)⟩)
  dsimp only [Pt.U, Pt.locs, Pt.cells, Pt.slots] at X12 l12 y12 z12 st12 hQ12
  subst l12 y12 z12
  obtain ⟨rfl, N12q, e12⟩ := hQ12
  have N12 := Fr.app N11 N12q
  obtain ⟨_, _, ⟨T13, L13, k13, n13⟩, -, X13, ⟨Lc13, hQ13, l13, y13, z13⟩, st13⟩ := Jvm.LawKit.callS X12 hx (y := (⟨"com/example/epochcast/epochcast/server/SessionLeasesHeartbeatPinLaw", "ref", "(JJJJJ)J"⟩ : MethodName)) hown (mvT hZ (hw _ (List.mem_of_getElem? (i := 180) rfl))) (mvT hZ (hw _ (List.mem_of_getElem? (i := 181) rfl))) (mvT hZ (hw _ (List.mem_of_getElem? (i := 182) rfl))) (mvT hZ (hw _ (List.mem_of_getElem? (i := 183) rfl))) (by decide) (backOf (W := 2) (rm21_rf l Z a0 hw [] bl vb q2 tk lp T7.heap n0 (Nat.le_trans Z0 K7.1)) hZ (hw _ (List.mem_of_getElem? (i := 183) rfl)) (hw _ (List.mem_of_getElem? (i := 182) rfl)) (by decide) (by decide)) (g := (mkF m 215 #[.val (.int p1), .val (.long q2), .second, .val (.long q3), .second, .val (.long q4), .second, .val (.long q5), .second, .val (.int vt), .val (.long tk), .second, .val (.long lp), .second, .val (.long va), .second, .val (.long vb), .second, .val (.long vn), .second, .val (.ref b1), .val (.long q2), .second, .val (.long q2), .second, .val (.long vb), .second, .val (.long vmm), .second] [(.long lp), (.long tk), (.long q2), (.long vb), (.long bl), (.long (own_ref bl vb q2 tk lp))])) rfl (by rw [hml]; rfl) (argsL := [(.long bl), (.long vb), (.long q2), (.long tk), (.long lp)]) (rest := [(.long (own_ref bl vb q2 tk lp))]) (lenOf pd__JJJJJ_J rfl) rfl (by show 2 * 0 + _ ≤ _; exact Nat.le_of_eq rfl) (hb hby at_215) (fun _ _ => ⟨rfl, e12, (by decide : 6 + 0 ≤ _), (by decide : 36 + 0 ≤ _)⟩)
  dsimp only [Pt.U, Pt.locs, Pt.cells, Pt.slots] at X13 l13 y13 z13 st13 hQ13
  subst l13 y13 z13
  obtain ⟨rfl, N13q, e13⟩ := hQ13
  have N13 := Fr.app N12 N13q
  obtain ⟨cq14, kq14, q14a, q14b, q14c⟩ := isOf hZ e13 fq7_2
  obtain ⟨_, _, ⟨T14, L14, k14, n14⟩, -, X14, ⟨Lc14, hQ14, l14, y14, z14⟩, st14⟩ := X13.virtualBack hx (y := (⟨"com/example/epochcast/epochcast/server/SessionLeases", "nextCheck", "(J)J"⟩ : MethodName)) (z := (⟨"com/example/epochcast/epochcast/server/SessionLeases", "nextCheck", "(J)J"⟩ : MethodName)) hown (mvT hZ (hw _ (List.mem_of_getElem? (i := 175) rfl))) (mvT hZ (hw _ (List.mem_of_getElem? (i := 176) rfl))) (notFace_of_selects (args := #[]) (mvT hZ (hw _ (List.mem_of_getElem? (i := 178) rfl)))) (mvT hZ (hw _ (List.mem_of_getElem? (i := 178) rfl))) (mvT hZ (hw _ (List.mem_of_getElem? (i := 177) rfl))) (by decide) (backOf (W := 0) (rm20_nx l Z a0 hw [] b1 bl1 tk vb lp q2 b2c2 b2c3 kc2kd4 T7.heap n0 (Nat.le_trans Z0 K7.1) fq7_6 fq7_0 fq7_1 fq7_4 ((fq5_6.keep Kq6 (ninS (Ne.symm (Nat.ne_of_lt (Nat.lt_of_lt_of_le (A1).lt s_b2c2))) nin0)).keep Kq7 (ninS (Ne.symm (Nat.ne_of_lt (Nat.lt_of_lt_of_le (A1).lt s_b2c2))) nin0)) (((((fq2_16.ext E3).keep Kq4 (ninS (Nat.ne_of_lt (Nat.lt_of_lt_of_le (fq2_16).lt s_b3)) nin0)).keep Kq5 (ninS (Ne.symm nq_b2c1_b2c3) (ninS (Ne.symm nq_b2c2_b2c3) (ninS (Ne.symm (Nat.ne_of_lt (Nat.lt_of_lt_of_le (A1).lt s_b2c3))) nin0)))).keep Kq6 (ninS (Ne.symm (Nat.ne_of_lt (Nat.lt_of_lt_of_le (A1).lt s_b2c3))) nin0)).keep Kq7 (ninS (Ne.symm (Nat.ne_of_lt (Nat.lt_of_lt_of_le (A1).lt s_b2c3))) nin0)) ((fq5_4.keep Kq6).keep Kq7) fq7_5) hZ (hw _ (List.mem_of_getElem? (i := 179) rfl)) (hw _ (List.mem_of_getElem? (i := 5) rfl)) (by decide) (by decide)) q14a q14c (g := (mkF m 231 #[.val (.int p1), .val (.long q2), .second, .val (.long q3), .second, .val (.long q4), .second, .val (.long q5), .second, .val (.int vt), .val (.long tk), .second, .val (.long lp), .second, .val (.long va), .second, .val (.long vb), .second, .val (.long vn), .second, .val (.ref b1), .val (.long q2), .second, .val (.long q2), .second, .val (.long vb), .second, .val (.long vmm), .second] [(.long bl1), (.ref b1)])) rfl (by rw [hml]; rfl) (Steps.refl _) (argsL := [(.long bl1)]) (rest := []) (lenOf pd__J_J rfl) rfl (by show 2 * 0 + _ ≤ _; exact Nat.le_of_eq rfl) (hb hby at_231) (fun _ _ => ⟨rfl, e13, (by decide : 6 + 0 ≤ _), (by decide : 36 + 0 ≤ _)⟩)
  dsimp only [Pt.U, Pt.locs, Pt.cells, Pt.slots] at X14 l14 y14 z14 st14 hQ14
  subst l14 y14 z14
  obtain ⟨rfl, N14q, e14⟩ := hQ14
  have N14 := Fr.app N13 N14q
  obtain ⟨_, _, ⟨T15, L15, k15, n15⟩, -, X15, ⟨Lc15, hQ15, l15, y15, z15⟩, st15⟩ := Jvm.LawKit.callS X14 hx (y := (⟨"com/example/epochcast/epochcast/server/SessionLeasesHeartbeatPinLaw", "ref", "(JJJJJ)J"⟩ : MethodName)) hown (mvT hZ (hw _ (List.mem_of_getElem? (i := 180) rfl))) (mvT hZ (hw _ (List.mem_of_getElem? (i := 181) rfl))) (mvT hZ (hw _ (List.mem_of_getElem? (i := 182) rfl))) (mvT hZ (hw _ (List.mem_of_getElem? (i := 183) rfl))) (by decide) (backOf (W := 2) (rm21_rf l Z a0 hw [] bl1 vb q2 tk lp T7.heap n0 (Nat.le_trans Z0 K7.1)) hZ (hw _ (List.mem_of_getElem? (i := 183) rfl)) (hw _ (List.mem_of_getElem? (i := 182) rfl)) (by decide) (by decide)) (g := (mkF m 249 #[.val (.int p1), .val (.long q2), .second, .val (.long q3), .second, .val (.long q4), .second, .val (.long q5), .second, .val (.int vt), .val (.long tk), .second, .val (.long lp), .second, .val (.long va), .second, .val (.long vb), .second, .val (.long vn), .second, .val (.ref b1), .val (.long q2), .second, .val (.long q2), .second, .val (.long vb), .second, .val (.long vmm), .second] [(.long lp), (.long tk), (.long q2), (.long vb), (.long bl1), (.long (own_ref bl1 vb q2 tk lp))])) rfl (by rw [hml]; rfl) (argsL := [(.long bl1), (.long vb), (.long q2), (.long tk), (.long lp)]) (rest := [(.long (own_ref bl1 vb q2 tk lp))]) (lenOf pd__JJJJJ_J rfl) rfl (by show 2 * 0 + _ ≤ _; exact Nat.le_of_eq rfl) (hb hby at_249) (fun _ _ => ⟨rfl, e14, (by decide : 6 + 0 ≤ _), (by decide : 36 + 0 ≤ _)⟩)
  dsimp only [Pt.U, Pt.locs, Pt.cells, Pt.slots] at X15 l15 y15 z15 st15 hQ15
  subst l15 y15 z15
  obtain ⟨rfl, N15q, e15⟩ := hQ15
  have N15 := Fr.app N14 N15q
  obtain ⟨cq16, kq16, q16a, q16b, q16c⟩ := isOf hZ e15 fq7_2
  obtain ⟨_, _, ⟨T16, L16, k16, n16⟩, -, X16, ⟨Lc16, hQ16, l16, y16, z16⟩, st16⟩ := X15.virtualBack hx (y := (⟨"com/example/epochcast/epochcast/server/SessionLeases", "nextCheck", "(J)J"⟩ : MethodName)) (z := (⟨"com/example/epochcast/epochcast/server/SessionLeases", "nextCheck", "(J)J"⟩ : MethodName)) hown (mvT hZ (hw _ (List.mem_of_getElem? (i := 175) rfl))) (mvT hZ (hw _ (List.mem_of_getElem? (i := 176) rfl))) (notFace_of_selects (args := #[]) (mvT hZ (hw _ (List.mem_of_getElem? (i := 178) rfl)))) (mvT hZ (hw _ (List.mem_of_getElem? (i := 178) rfl))) (mvT hZ (hw _ (List.mem_of_getElem? (i := 177) rfl))) (by decide) (backOf (W := 0) (rm20_nx l Z a0 hw [] b1 vmm tk vb lp q2 b2c2 b2c3 kc2kd4 T7.heap n0 (Nat.le_trans Z0 K7.1) fq7_6 fq7_0 fq7_1 fq7_4 ((fq5_6.keep Kq6 (ninS (Ne.symm (Nat.ne_of_lt (Nat.lt_of_lt_of_le (A1).lt s_b2c2))) nin0)).keep Kq7 (ninS (Ne.symm (Nat.ne_of_lt (Nat.lt_of_lt_of_le (A1).lt s_b2c2))) nin0)) (((((fq2_16.ext E3).keep Kq4 (ninS (Nat.ne_of_lt (Nat.lt_of_lt_of_le (fq2_16).lt s_b3)) nin0)).keep Kq5 (ninS (Ne.symm nq_b2c1_b2c3) (ninS (Ne.symm nq_b2c2_b2c3) (ninS (Ne.symm (Nat.ne_of_lt (Nat.lt_of_lt_of_le (A1).lt s_b2c3))) nin0)))).keep Kq6 (ninS (Ne.symm (Nat.ne_of_lt (Nat.lt_of_lt_of_le (A1).lt s_b2c3))) nin0)).keep Kq7 (ninS (Ne.symm (Nat.ne_of_lt (Nat.lt_of_lt_of_le (A1).lt s_b2c3))) nin0)) ((fq5_4.keep Kq6).keep Kq7) fq7_5) hZ (hw _ (List.mem_of_getElem? (i := 179) rfl)) (hw _ (List.mem_of_getElem? (i := 5) rfl)) (by decide) (by decide)) q16a q16c (g := (mkF m 260 #[.val (.int p1), .val (.long q2), .second, .val (.long q3), .second, .val (.long q4), .second, .val (.long q5), .second, .val (.int vt), .val (.long tk), .second, .val (.long lp), .second, .val (.long va), .second, .val (.long vb), .second, .val (.long vn), .second, .val (.ref b1), .val (.long q2), .second, .val (.long q2), .second, .val (.long vb), .second, .val (.long vmm), .second] [(.long vmm), (.ref b1)])) rfl (by rw [hml]; rfl) (Steps.refl _) (argsL := [(.long vmm)]) (rest := []) (lenOf pd__J_J rfl) rfl (by show 2 * 0 + _ ≤ _; exact Nat.le_of_eq rfl) (hb hby at_260) (fun _ _ => ⟨rfl, e15, (by decide : 6 + 0 ≤ _), (by decide : 36 + 0 ≤ _)⟩)
  dsimp only [Pt.U, Pt.locs, Pt.cells, Pt.slots] at X16 l16 y16 z16 st16 hQ16
  subst l16 y16 z16
  obtain ⟨rfl, N16q, e16⟩ := hQ16
  have N16 := Fr.app N15 N16q
  obtain ⟨_, _, ⟨T17, L17, k17, n17⟩, -, X17, ⟨Lc17, hQ17, l17, y17, z17⟩, st17⟩ := Jvm.LawKit.callS X16 hx (y := (⟨"com/example/epochcast/epochcast/server/SessionLeasesHeartbeatPinLaw", "ref", "(JJJJJ)J"⟩ : MethodName)) hown (mvT hZ (hw _ (List.mem_of_getElem? (i := 180) rfl))) (mvT hZ (hw _ (List.mem_of_getElem? (i := 181) rfl))) (mvT hZ (hw _ (List.mem_of_getElem? (i := 182) rfl))) (mvT hZ (hw _ (List.mem_of_getElem? (i := 183) rfl))) (by decide) (backOf (W := 2) (rm21_rf l Z a0 hw [] vmm vb q2 tk lp T7.heap n0 (Nat.le_trans Z0 K7.1)) hZ (hw _ (List.mem_of_getElem? (i := 183) rfl)) (hw _ (List.mem_of_getElem? (i := 182) rfl)) (by decide) (by decide)) (g := (mkF m 273 #[.val (.int p1), .val (.long q2), .second, .val (.long q3), .second, .val (.long q4), .second, .val (.long q5), .second, .val (.int vt), .val (.long tk), .second, .val (.long lp), .second, .val (.long va), .second, .val (.long vb), .second, .val (.long vn), .second, .val (.ref b1), .val (.long q2), .second, .val (.long q2), .second, .val (.long vb), .second, .val (.long vmm), .second] [(.long lp), (.long tk), (.long q2), (.long vb), (.long vmm), (.long (own_ref vmm vb q2 tk lp))])) rfl (by rw [hml]; rfl) (argsL := [(.long vmm), (.long vb), (.long q2), (.long tk), (.long lp)]) (rest := [(.long (own_ref vmm vb q2 tk lp))]) (lenOf pd__JJJJJ_J rfl) rfl (by show 2 * 0 + _ ≤ _; exact Nat.le_of_eq rfl) (hb hby at_273) (fun _ _ => ⟨rfl, e16, (by decide : 6 + 0 ≤ _), (by decide : 36 + 0 ≤ _)⟩)
  dsimp only [Pt.U, Pt.locs, Pt.cells, Pt.slots] at X17 l17 y17 z17 st17 hQ17
  subst l17 y17 z17
  obtain ⟨rfl, N17q, e17⟩ := hQ17
  have N17 := Fr.app N16 N17q
  obtain ⟨fs, hr, hrun, hended, hW, hsame⟩ := X17.leave (v := some (.int 1)) (fun h => by rw [Bd.returns] at h; cases h)
  refine ⟨_, _, pre0 _ ?_, hrun, hended, _, _, rfl, ?_, ⟨_, rfl⟩, hW, hsame.mono (by decide) (by decide)⟩
  · show Steps p.tables e below (s₁.setTop (mkF m 0 #[.val (.int p1), .val (.long q2), .second, .val (.long q3), .second, .val (.long q4), .second, .val (.long q5), .second, .unset, .unset, .unset, .unset, .unset, .unset, .unset, .unset, .unset, .unset, .unset, .unset, .unset, .unset, .unset, .unset, .unset, .unset, .unset, .unset] [])) _
    refine XS.iloadN X0.here hx rfl (hb hby at_0) rfl ?_
    show Steps p.tables e below (s₁.setTop (mkF m 1 #[.val (.int p1), .val (.long q2), .second, .val (.long q3), .second, .val (.long q4), .second, .val (.long q5), .second, .unset, .unset, .unset, .unset, .unset, .unset, .unset, .unset, .unset, .unset, .unset, .unset, .unset, .unset, .unset, .unset, .unset, .unset, .unset, .unset] [(.int p1)])) _
    refine X0.ldcInt hx hown (mvT hZ (hw _ (List.mem_of_getElem? (i := 0) rfl))) (g := (mkF m 1 #[.val (.int p1), .val (.long q2), .second, .val (.long q3), .second, .val (.long q4), .second, .val (.long q5), .second, .unset, .unset, .unset, .unset, .unset, .unset, .unset, .unset, .unset, .unset, .unset, .unset, .unset, .unset, .unset, .unset, .unset, .unset, .unset, .unset] [(.int p1)])) rfl (hb hby at_1) _ ?_
    show Steps p.tables e below (s₁.setTop (mkF m 3 #[.val (.int p1), .val (.long q2), .second, .val (.long q3), .second, .val (.long q4), .second, .val (.long q5), .second, .unset, .unset, .unset, .unset, .unset, .unset, .unset, .unset, .unset, .unset, .unset, .unset, .unset, .unset, .unset, .unset, .unset, .unset, .unset, .unset] [(.int 2147483647), (.int p1)])) _
    refine XS.iand X0.here hx rfl (hb hby at_3) rfl ?_
    show Steps p.tables e below (s₁.setTop (mkF m 4 #[.val (.int p1), .val (.long q2), .second, .val (.long q3), .second, .val (.long q4), .second, .val (.long q5), .second, .unset, .unset, .unset, .unset, .unset, .unset, .unset, .unset, .unset, .unset, .unset, .unset, .unset, .unset, .unset, .unset, .unset, .unset, .unset, .unset] [(.int (p1 &&& (2147483647 : Int32)))])) _
    rw [ht]
    show Steps p.tables e below (s₁.setTop (mkF m 4 #[.val (.int p1), .val (.long q2), .second, .val (.long q3), .second, .val (.long q4), .second, .val (.long q5), .second, .unset, .unset, .unset, .unset, .unset, .unset, .unset, .unset, .unset, .unset, .unset, .unset, .unset, .unset, .unset, .unset, .unset, .unset, .unset, .unset] [(.int vt)])) _
    refine XS.istore X0.here hx rfl (hb hby at_4) rfl (l' := #[.val (.int p1), .val (.long q2), .second, .val (.long q3), .second, .val (.long q4), .second, .val (.long q5), .second, .val (.int vt), .unset, .unset, .unset, .unset, .unset, .unset, .unset, .unset, .unset, .unset, .unset, .unset, .unset, .unset, .unset, .unset, .unset, .unset, .unset]) rfl ?_
    show Steps p.tables e below (s₁.setTop (mkF m 6 #[.val (.int p1), .val (.long q2), .second, .val (.long q3), .second, .val (.long q4), .second, .val (.long q5), .second, .val (.int vt), .unset, .unset, .unset, .unset, .unset, .unset, .unset, .unset, .unset, .unset, .unset, .unset, .unset, .unset, .unset, .unset, .unset, .unset, .unset] [])) _
    refine XS.iload X0.here hx rfl (hb hby at_6) rfl ?_
    show Steps p.tables e below (s₁.setTop (mkF m 8 #[.val (.int p1), .val (.long q2), .second, .val (.long q3), .second, .val (.long q4), .second, .val (.long q5), .second, .val (.int vt), .unset, .unset, .unset, .unset, .unset, .unset, .unset, .unset, .unset, .unset, .unset, .unset, .unset, .unset, .unset, .unset, .unset, .unset, .unset] [(.int vt)])) _
    refine XS.i2l X0.here hx rfl (hb hby at_8) rfl ?_
    show Steps p.tables e below (s₁.setTop (mkF m 9 #[.val (.int p1), .val (.long q2), .second, .val (.long q3), .second, .val (.long q4), .second, .val (.long q5), .second, .val (.int vt), .unset, .unset, .unset, .unset, .unset, .unset, .unset, .unset, .unset, .unset, .unset, .unset, .unset, .unset, .unset, .unset, .unset, .unset, .unset] [(.long (vt.toInt64))])) _
    refine X0.ldc2Long hx hown (mvT hZ (hw _ (List.mem_of_getElem? (i := 1) rfl))) (g := (mkF m 9 #[.val (.int p1), .val (.long q2), .second, .val (.long q3), .second, .val (.long q4), .second, .val (.long q5), .second, .val (.int vt), .unset, .unset, .unset, .unset, .unset, .unset, .unset, .unset, .unset, .unset, .unset, .unset, .unset, .unset, .unset, .unset, .unset, .unset, .unset] [(.long (vt.toInt64))])) rfl (hb hby at_9) _ ?_
    show Steps p.tables e below (s₁.setTop (mkF m 12 #[.val (.int p1), .val (.long q2), .second, .val (.long q3), .second, .val (.long q4), .second, .val (.long q5), .second, .val (.int vt), .unset, .unset, .unset, .unset, .unset, .unset, .unset, .unset, .unset, .unset, .unset, .unset, .unset, .unset, .unset, .unset, .unset, .unset, .unset] [(.long 1000000), (.long (vt.toInt64))])) _
    refine XS.lmul X0.here hx rfl (hb hby at_12) rfl ?_
    show Steps p.tables e below (s₁.setTop (mkF m 13 #[.val (.int p1), .val (.long q2), .second, .val (.long q3), .second, .val (.long q4), .second, .val (.long q5), .second, .val (.int vt), .unset, .unset, .unset, .unset, .unset, .unset, .unset, .unset, .unset, .unset, .unset, .unset, .unset, .unset, .unset, .unset, .unset, .unset, .unset] [(.long ((vt.toInt64) * (1000000 : Int64)))])) _
    rw [htk]
    show Steps p.tables e below (s₁.setTop (mkF m 13 #[.val (.int p1), .val (.long q2), .second, .val (.long q3), .second, .val (.long q4), .second, .val (.long q5), .second, .val (.int vt), .unset, .unset, .unset, .unset, .unset, .unset, .unset, .unset, .unset, .unset, .unset, .unset, .unset, .unset, .unset, .unset, .unset, .unset, .unset] [(.long tk)])) _
    refine XS.lstore X0.here hx rfl (hb hby at_13) rfl (l' := #[.val (.int p1), .val (.long q2), .second, .val (.long q3), .second, .val (.long q4), .second, .val (.long q5), .second, .val (.int vt), .val (.long tk), .second, .unset, .unset, .unset, .unset, .unset, .unset, .unset, .unset, .unset, .unset, .unset, .unset, .unset, .unset, .unset, .unset, .unset]) rfl ?_
    show Steps p.tables e below (s₁.setTop (mkF m 15 #[.val (.int p1), .val (.long q2), .second, .val (.long q3), .second, .val (.long q4), .second, .val (.long q5), .second, .val (.int vt), .val (.long tk), .second, .unset, .unset, .unset, .unset, .unset, .unset, .unset, .unset, .unset, .unset, .unset, .unset, .unset, .unset, .unset, .unset, .unset] [])) _
    refine XS.lload X0.here hx rfl (hb hby at_15) rfl ?_
    show Steps p.tables e below (s₁.setTop (mkF m 17 #[.val (.int p1), .val (.long q2), .second, .val (.long q3), .second, .val (.long q4), .second, .val (.long q5), .second, .val (.int vt), .val (.long tk), .second, .unset, .unset, .unset, .unset, .unset, .unset, .unset, .unset, .unset, .unset, .unset, .unset, .unset, .unset, .unset, .unset, .unset] [(.long tk)])) _
    refine XS.lload X0.here hx rfl (hb hby at_17) rfl ?_
    show Steps p.tables e below (s₁.setTop (mkF m 19 #[.val (.int p1), .val (.long q2), .second, .val (.long q3), .second, .val (.long q4), .second, .val (.long q5), .second, .val (.int vt), .val (.long tk), .second, .unset, .unset, .unset, .unset, .unset, .unset, .unset, .unset, .unset, .unset, .unset, .unset, .unset, .unset, .unset, .unset, .unset] [(.long tk), (.long tk)])) _
    refine X0.ldc2Long hx hown (mvT hZ (hw _ (List.mem_of_getElem? (i := 2) rfl))) (g := (mkF m 19 #[.val (.int p1), .val (.long q2), .second, .val (.long q3), .second, .val (.long q4), .second, .val (.long q5), .second, .val (.int vt), .val (.long tk), .second, .unset, .unset, .unset, .unset, .unset, .unset, .unset, .unset, .unset, .unset, .unset, .unset, .unset, .unset, .unset, .unset, .unset] [(.long tk), (.long tk)])) rfl (hb hby at_19) _ ?_
    show Steps p.tables e below (s₁.setTop (mkF m 22 #[.val (.int p1), .val (.long q2), .second, .val (.long q3), .second, .val (.long q4), .second, .val (.long q5), .second, .val (.int vt), .val (.long tk), .second, .unset, .unset, .unset, .unset, .unset, .unset, .unset, .unset, .unset, .unset, .unset, .unset, .unset, .unset, .unset, .unset, .unset] [(.long 4), (.long tk), (.long tk)])) _
    refine XS.ldiv X0.here hx rfl (hb hby at_22) rfl (by decide) ?_
    show Steps p.tables e below (s₁.setTop (mkF m 23 #[.val (.int p1), .val (.long q2), .second, .val (.long q3), .second, .val (.long q4), .second, .val (.long q5), .second, .val (.int vt), .val (.long tk), .second, .unset, .unset, .unset, .unset, .unset, .unset, .unset, .unset, .unset, .unset, .unset, .unset, .unset, .unset, .unset, .unset, .unset] [(.long (tk / (4 : Int64))), (.long tk)])) _
    refine XS.ladd X0.here hx rfl (hb hby at_23) rfl ?_
    show Steps p.tables e below (s₁.setTop (mkF m 24 #[.val (.int p1), .val (.long q2), .second, .val (.long q3), .second, .val (.long q4), .second, .val (.long q5), .second, .val (.int vt), .val (.long tk), .second, .unset, .unset, .unset, .unset, .unset, .unset, .unset, .unset, .unset, .unset, .unset, .unset, .unset, .unset, .unset, .unset, .unset] [(.long (tk + (tk / (4 : Int64))))])) _
    rw [hlp]
    show Steps p.tables e below (s₁.setTop (mkF m 24 #[.val (.int p1), .val (.long q2), .second, .val (.long q3), .second, .val (.long q4), .second, .val (.long q5), .second, .val (.int vt), .val (.long tk), .second, .unset, .unset, .unset, .unset, .unset, .unset, .unset, .unset, .unset, .unset, .unset, .unset, .unset, .unset, .unset, .unset, .unset] [(.long lp)])) _
    refine XS.lstore X0.here hx rfl (hb hby at_24) rfl (l' := #[.val (.int p1), .val (.long q2), .second, .val (.long q3), .second, .val (.long q4), .second, .val (.long q5), .second, .val (.int vt), .val (.long tk), .second, .val (.long lp), .second, .unset, .unset, .unset, .unset, .unset, .unset, .unset, .unset, .unset, .unset, .unset, .unset, .unset, .unset, .unset]) rfl ?_
    show Steps p.tables e below (s₁.setTop (mkF m 26 #[.val (.int p1), .val (.long q2), .second, .val (.long q3), .second, .val (.long q4), .second, .val (.long q5), .second, .val (.int vt), .val (.long tk), .second, .val (.long lp), .second, .unset, .unset, .unset, .unset, .unset, .unset, .unset, .unset, .unset, .unset, .unset, .unset, .unset, .unset, .unset] [])) _
    refine XS.lloadN X0.here hx rfl (hb hby at_26) rfl ?_
    show Steps p.tables e below (s₁.setTop (mkF m 27 #[.val (.int p1), .val (.long q2), .second, .val (.long q3), .second, .val (.long q4), .second, .val (.long q5), .second, .val (.int vt), .val (.long tk), .second, .val (.long lp), .second, .unset, .unset, .unset, .unset, .unset, .unset, .unset, .unset, .unset, .unset, .unset, .unset, .unset, .unset, .unset] [(.long q2)])) _
    refine XS.lloadN X0.here hx rfl (hb hby at_27) rfl ?_
    show Steps p.tables e below (s₁.setTop (mkF m 28 #[.val (.int p1), .val (.long q2), .second, .val (.long q3), .second, .val (.long q4), .second, .val (.long q5), .second, .val (.int vt), .val (.long tk), .second, .val (.long lp), .second, .unset, .unset, .unset, .unset, .unset, .unset, .unset, .unset, .unset, .unset, .unset, .unset, .unset, .unset, .unset] [(.long q3), (.long q2)])) _
    refine XS.ladd X0.here hx rfl (hb hby at_28) rfl ?_
    show Steps p.tables e below (s₁.setTop (mkF m 29 #[.val (.int p1), .val (.long q2), .second, .val (.long q3), .second, .val (.long q4), .second, .val (.long q5), .second, .val (.int vt), .val (.long tk), .second, .val (.long lp), .second, .unset, .unset, .unset, .unset, .unset, .unset, .unset, .unset, .unset, .unset, .unset, .unset, .unset, .unset, .unset] [(.long (q2 + q3))])) _
    rw [hva]
    show Steps p.tables e below (s₁.setTop (mkF m 29 #[.val (.int p1), .val (.long q2), .second, .val (.long q3), .second, .val (.long q4), .second, .val (.long q5), .second, .val (.int vt), .val (.long tk), .second, .val (.long lp), .second, .unset, .unset, .unset, .unset, .unset, .unset, .unset, .unset, .unset, .unset, .unset, .unset, .unset, .unset, .unset] [(.long va)])) _
    refine XS.lstore X0.here hx rfl (hb hby at_29) rfl (l' := #[.val (.int p1), .val (.long q2), .second, .val (.long q3), .second, .val (.long q4), .second, .val (.long q5), .second, .val (.int vt), .val (.long tk), .second, .val (.long lp), .second, .val (.long va), .second, .unset, .unset, .unset, .unset, .unset, .unset, .unset, .unset, .unset, .unset, .unset, .unset, .unset]) rfl ?_
    show Steps p.tables e below (s₁.setTop (mkF m 31 #[.val (.int p1), .val (.long q2), .second, .val (.long q3), .second, .val (.long q4), .second, .val (.long q5), .second, .val (.int vt), .val (.long tk), .second, .val (.long lp), .second, .val (.long va), .second, .unset, .unset, .unset, .unset, .unset, .unset, .unset, .unset, .unset, .unset, .unset, .unset, .unset] [])) _
    refine XS.lload X0.here hx rfl (hb hby at_31) rfl ?_
    show Steps p.tables e below (s₁.setTop (mkF m 33 #[.val (.int p1), .val (.long q2), .second, .val (.long q3), .second, .val (.long q4), .second, .val (.long q5), .second, .val (.int vt), .val (.long tk), .second, .val (.long lp), .second, .val (.long va), .second, .unset, .unset, .unset, .unset, .unset, .unset, .unset, .unset, .unset, .unset, .unset, .unset, .unset] [(.long va)])) _
    refine XS.lload X0.here hx rfl (hb hby at_33) rfl ?_
    show Steps p.tables e below (s₁.setTop (mkF m 35 #[.val (.int p1), .val (.long q2), .second, .val (.long q3), .second, .val (.long q4), .second, .val (.long q5), .second, .val (.int vt), .val (.long tk), .second, .val (.long lp), .second, .val (.long va), .second, .unset, .unset, .unset, .unset, .unset, .unset, .unset, .unset, .unset, .unset, .unset, .unset, .unset] [(.long q4), (.long va)])) _
    refine XS.ladd X0.here hx rfl (hb hby at_35) rfl ?_
    show Steps p.tables e below (s₁.setTop (mkF m 36 #[.val (.int p1), .val (.long q2), .second, .val (.long q3), .second, .val (.long q4), .second, .val (.long q5), .second, .val (.int vt), .val (.long tk), .second, .val (.long lp), .second, .val (.long va), .second, .unset, .unset, .unset, .unset, .unset, .unset, .unset, .unset, .unset, .unset, .unset, .unset, .unset] [(.long (va + q4))])) _
    rw [hvb]
    show Steps p.tables e below (s₁.setTop (mkF m 36 #[.val (.int p1), .val (.long q2), .second, .val (.long q3), .second, .val (.long q4), .second, .val (.long q5), .second, .val (.int vt), .val (.long tk), .second, .val (.long lp), .second, .val (.long va), .second, .unset, .unset, .unset, .unset, .unset, .unset, .unset, .unset, .unset, .unset, .unset, .unset, .unset] [(.long vb)])) _
    refine XS.lstore X0.here hx rfl (hb hby at_36) rfl (l' := #[.val (.int p1), .val (.long q2), .second, .val (.long q3), .second, .val (.long q4), .second, .val (.long q5), .second, .val (.int vt), .val (.long tk), .second, .val (.long lp), .second, .val (.long va), .second, .val (.long vb), .second, .unset, .unset, .unset, .unset, .unset, .unset, .unset, .unset, .unset, .unset, .unset]) rfl ?_
    show Steps p.tables e below (s₁.setTop (mkF m 38 #[.val (.int p1), .val (.long q2), .second, .val (.long q3), .second, .val (.long q4), .second, .val (.long q5), .second, .val (.int vt), .val (.long tk), .second, .val (.long lp), .second, .val (.long va), .second, .val (.long vb), .second, .unset, .unset, .unset, .unset, .unset, .unset, .unset, .unset, .unset, .unset, .unset] [])) _
    refine XS.lload X0.here hx rfl (hb hby at_38) rfl ?_
    show Steps p.tables e below (s₁.setTop (mkF m 40 #[.val (.int p1), .val (.long q2), .second, .val (.long q3), .second, .val (.long q4), .second, .val (.long q5), .second, .val (.int vt), .val (.long tk), .second, .val (.long lp), .second, .val (.long va), .second, .val (.long vb), .second, .unset, .unset, .unset, .unset, .unset, .unset, .unset, .unset, .unset, .unset, .unset] [(.long vb)])) _
    refine XS.lload X0.here hx rfl (hb hby at_40) rfl ?_
    show Steps p.tables e below (s₁.setTop (mkF m 42 #[.val (.int p1), .val (.long q2), .second, .val (.long q3), .second, .val (.long q4), .second, .val (.long q5), .second, .val (.int vt), .val (.long tk), .second, .val (.long lp), .second, .val (.long va), .second, .val (.long vb), .second, .unset, .unset, .unset, .unset, .unset, .unset, .unset, .unset, .unset, .unset, .unset] [(.long q5), (.long vb)])) _
    refine XS.ladd X0.here hx rfl (hb hby at_42) rfl ?_
    show Steps p.tables e below (s₁.setTop (mkF m 43 #[.val (.int p1), .val (.long q2), .second, .val (.long q3), .second, .val (.long q4), .second, .val (.long q5), .second, .val (.int vt), .val (.long tk), .second, .val (.long lp), .second, .val (.long va), .second, .val (.long vb), .second, .unset, .unset, .unset, .unset, .unset, .unset, .unset, .unset, .unset, .unset, .unset] [(.long (vb + q5))])) _
    rw [hvn]
    show Steps p.tables e below (s₁.setTop (mkF m 43 #[.val (.int p1), .val (.long q2), .second, .val (.long q3), .second, .val (.long q4), .second, .val (.long q5), .second, .val (.int vt), .val (.long tk), .second, .val (.long lp), .second, .val (.long va), .second, .val (.long vb), .second, .unset, .unset, .unset, .unset, .unset, .unset, .unset, .unset, .unset, .unset, .unset] [(.long vn)])) _
    refine XS.lstore X0.here hx rfl (hb hby at_43) rfl (l' := #[.val (.int p1), .val (.long q2), .second, .val (.long q3), .second, .val (.long q4), .second, .val (.long q5), .second, .val (.int vt), .val (.long tk), .second, .val (.long lp), .second, .val (.long va), .second, .val (.long vb), .second, .val (.long vn), .second, .unset, .unset, .unset, .unset, .unset, .unset, .unset, .unset, .unset]) rfl ?_
    show Steps p.tables e below (s₁.setTop (mkF m 45 #[.val (.int p1), .val (.long q2), .second, .val (.long q3), .second, .val (.long q4), .second, .val (.long q5), .second, .val (.int vt), .val (.long tk), .second, .val (.long lp), .second, .val (.long va), .second, .val (.long vb), .second, .val (.long vn), .second, .unset, .unset, .unset, .unset, .unset, .unset, .unset, .unset, .unset] [])) _
    refine st1 _ ?_
    show Steps p.tables e below (T1.setTop (mkF m 48 #[.val (.int p1), .val (.long q2), .second, .val (.long q3), .second, .val (.long q4), .second, .val (.long q5), .second, .val (.int vt), .val (.long tk), .second, .val (.long lp), .second, .val (.long va), .second, .val (.long vb), .second, .val (.long vn), .second, .unset, .unset, .unset, .unset, .unset, .unset, .unset, .unset, .unset] [(.ref b1)])) _
    refine XS.dup X1.here hx rfl (hb hby at_48) rfl rfl ?_
    show Steps p.tables e below (T1.setTop (mkF m 49 #[.val (.int p1), .val (.long q2), .second, .val (.long q3), .second, .val (.long q4), .second, .val (.long q5), .second, .val (.int vt), .val (.long tk), .second, .val (.long lp), .second, .val (.long va), .second, .val (.long vb), .second, .val (.long vn), .second, .unset, .unset, .unset, .unset, .unset, .unset, .unset, .unset, .unset] [(.ref b1), (.ref b1)])) _
    refine XS.iload X1.here hx rfl (hb hby at_49) rfl ?_
    show Steps p.tables e below (T1.setTop (mkF m 51 #[.val (.int p1), .val (.long q2), .second, .val (.long q3), .second, .val (.long q4), .second, .val (.long q5), .second, .val (.int vt), .val (.long tk), .second, .val (.long lp), .second, .val (.long va), .second, .val (.long vb), .second, .val (.long vn), .second, .unset, .unset, .unset, .unset, .unset, .unset, .unset, .unset, .unset] [(.int vt), (.ref b1), (.ref b1)])) _
    refine st2.trans ?_
    show Steps p.tables e below (T2.setTop (mkF m 54 #[.val (.int p1), .val (.long q2), .second, .val (.long q3), .second, .val (.long q4), .second, .val (.long q5), .second, .val (.int vt), .val (.long tk), .second, .val (.long lp), .second, .val (.long va), .second, .val (.long vb), .second, .val (.long vn), .second, .unset, .unset, .unset, .unset, .unset, .unset, .unset, .unset, .unset] [(.ref b1)])) _
    refine XS.astore X2.here hx rfl (hb hby at_54) rfl rfl (l' := #[.val (.int p1), .val (.long q2), .second, .val (.long q3), .second, .val (.long q4), .second, .val (.long q5), .second, .val (.int vt), .val (.long tk), .second, .val (.long lp), .second, .val (.long va), .second, .val (.long vb), .second, .val (.long vn), .second, .val (.ref b1), .unset, .unset, .unset, .unset, .unset, .unset, .unset, .unset]) rfl ?_
    show Steps p.tables e below (T2.setTop (mkF m 56 #[.val (.int p1), .val (.long q2), .second, .val (.long q3), .second, .val (.long q4), .second, .val (.long q5), .second, .val (.int vt), .val (.long tk), .second, .val (.long lp), .second, .val (.long va), .second, .val (.long vb), .second, .val (.long vn), .second, .val (.ref b1), .unset, .unset, .unset, .unset, .unset, .unset, .unset, .unset] [])) _
    refine XS.aload X2.here hx rfl (hb hby at_56) rfl rfl ?_
    show Steps p.tables e below (T2.setTop (mkF m 58 #[.val (.int p1), .val (.long q2), .second, .val (.long q3), .second, .val (.long q4), .second, .val (.long q5), .second, .val (.int vt), .val (.long tk), .second, .val (.long lp), .second, .val (.long va), .second, .val (.long vb), .second, .val (.long vn), .second, .val (.ref b1), .unset, .unset, .unset, .unset, .unset, .unset, .unset, .unset] [(.ref b1)])) _
    refine st3 _ ?_
    show Steps p.tables e below (T3.setTop (mkF m 61 #[.val (.int p1), .val (.long q2), .second, .val (.long q3), .second, .val (.long q4), .second, .val (.long q5), .second, .val (.int vt), .val (.long tk), .second, .val (.long lp), .second, .val (.long va), .second, .val (.long vb), .second, .val (.long vn), .second, .val (.ref b1), .unset, .unset, .unset, .unset, .unset, .unset, .unset, .unset] [(.ref b3), (.ref b1)])) _
    refine XS.dup X3.here hx rfl (hb hby at_61) rfl rfl ?_
    show Steps p.tables e below (T3.setTop (mkF m 62 #[.val (.int p1), .val (.long q2), .second, .val (.long q3), .second, .val (.long q4), .second, .val (.long q5), .second, .val (.int vt), .val (.long tk), .second, .val (.long lp), .second, .val (.long va), .second, .val (.long vb), .second, .val (.long vn), .second, .val (.ref b1), .unset, .unset, .unset, .unset, .unset, .unset, .unset, .unset] [(.ref b3), (.ref b3), (.ref b1)])) _
    refine st4.trans ?_
    show Steps p.tables e below (T4.setTop (mkF m 65 #[.val (.int p1), .val (.long q2), .second, .val (.long q3), .second, .val (.long q4), .second, .val (.long q5), .second, .val (.int vt), .val (.long tk), .second, .val (.long lp), .second, .val (.long va), .second, .val (.long vb), .second, .val (.long vn), .second, .val (.ref b1), .unset, .unset, .unset, .unset, .unset, .unset, .unset, .unset] [(.ref b3), (.ref b1)])) _
    refine XS.lloadN X4.here hx rfl (hb hby at_65) rfl ?_
    show Steps p.tables e below (T4.setTop (mkF m 66 #[.val (.int p1), .val (.long q2), .second, .val (.long q3), .second, .val (.long q4), .second, .val (.long q5), .second, .val (.int vt), .val (.long tk), .second, .val (.long lp), .second, .val (.long va), .second, .val (.long vb), .second, .val (.long vn), .second, .val (.ref b1), .unset, .unset, .unset, .unset, .unset, .unset, .unset, .unset] [(.long q2), (.ref b3), (.ref b1)])) _
    refine st5.trans ?_
    show Steps p.tables e below (T5.setTop (mkF m 69 #[.val (.int p1), .val (.long q2), .second, .val (.long q3), .second, .val (.long q4), .second, .val (.long q5), .second, .val (.int vt), .val (.long tk), .second, .val (.long lp), .second, .val (.long va), .second, .val (.long vb), .second, .val (.long vn), .second, .val (.ref b1), .unset, .unset, .unset, .unset, .unset, .unset, .unset, .unset] [])) _
    refine XS.aload X5.here hx rfl (hb hby at_69) rfl rfl ?_
    show Steps p.tables e below (T5.setTop (mkF m 71 #[.val (.int p1), .val (.long q2), .second, .val (.long q3), .second, .val (.long q4), .second, .val (.long q5), .second, .val (.int vt), .val (.long tk), .second, .val (.long lp), .second, .val (.long va), .second, .val (.long vb), .second, .val (.long vn), .second, .val (.ref b1), .unset, .unset, .unset, .unset, .unset, .unset, .unset, .unset] [(.ref b1)])) _
    refine XS.lload X5.here hx rfl (hb hby at_71) rfl ?_
    show Steps p.tables e below (T5.setTop (mkF m 73 #[.val (.int p1), .val (.long q2), .second, .val (.long q3), .second, .val (.long q4), .second, .val (.long q5), .second, .val (.int vt), .val (.long tk), .second, .val (.long lp), .second, .val (.long va), .second, .val (.long vb), .second, .val (.long vn), .second, .val (.ref b1), .unset, .unset, .unset, .unset, .unset, .unset, .unset, .unset] [(.long va), (.ref b1)])) _
    refine st6.trans ?_
    show Steps p.tables e below (T6.setTop (mkF m 76 #[.val (.int p1), .val (.long q2), .second, .val (.long q3), .second, .val (.long q4), .second, .val (.long q5), .second, .val (.int vt), .val (.long tk), .second, .val (.long lp), .second, .val (.long va), .second, .val (.long vb), .second, .val (.long vn), .second, .val (.ref b1), .unset, .unset, .unset, .unset, .unset, .unset, .unset, .unset] [])) _
    refine XS.aload X6.here hx rfl (hb hby at_76) rfl rfl ?_
    show Steps p.tables e below (T6.setTop (mkF m 78 #[.val (.int p1), .val (.long q2), .second, .val (.long q3), .second, .val (.long q4), .second, .val (.long q5), .second, .val (.int vt), .val (.long tk), .second, .val (.long lp), .second, .val (.long va), .second, .val (.long vb), .second, .val (.long vn), .second, .val (.ref b1), .unset, .unset, .unset, .unset, .unset, .unset, .unset, .unset] [(.ref b1)])) _
    refine XS.lload X6.here hx rfl (hb hby at_78) rfl ?_
    show Steps p.tables e below (T6.setTop (mkF m 80 #[.val (.int p1), .val (.long q2), .second, .val (.long q3), .second, .val (.long q4), .second, .val (.long q5), .second, .val (.int vt), .val (.long tk), .second, .val (.long lp), .second, .val (.long va), .second, .val (.long vb), .second, .val (.long vn), .second, .val (.ref b1), .unset, .unset, .unset, .unset, .unset, .unset, .unset, .unset] [(.long vb), (.ref b1)])) _
    refine st7.trans ?_
    show Steps p.tables e below (T7.setTop (mkF m 83 #[.val (.int p1), .val (.long q2), .second, .val (.long q3), .second, .val (.long q4), .second, .val (.long q5), .second, .val (.int vt), .val (.long tk), .second, .val (.long lp), .second, .val (.long va), .second, .val (.long vb), .second, .val (.long vn), .second, .val (.ref b1), .unset, .unset, .unset, .unset, .unset, .unset, .unset, .unset] [])) _
    refine XS.lload X7.here hx rfl (hb hby at_83) rfl ?_
    show Steps p.tables e below (T7.setTop (mkF m 85 #[.val (.int p1), .val (.long q2), .second, .val (.long q3), .second, .val (.long q4), .second, .val (.long q5), .second, .val (.int vt), .val (.long tk), .second, .val (.long lp), .second, .val (.long va), .second, .val (.long vb), .second, .val (.long vn), .second, .val (.ref b1), .unset, .unset, .unset, .unset, .unset, .unset, .unset, .unset] [(.long va)])) _
    refine XS.lloadN X7.here hx rfl (hb hby at_85) rfl ?_
    show Steps p.tables e below (T7.setTop (mkF m 86 #[.val (.int p1), .val (.long q2), .second, .val (.long q3), .second, .val (.long q4), .second, .val (.long q5), .second, .val (.int vt), .val (.long tk), .second, .val (.long lp), .second, .val (.long va), .second, .val (.long vb), .second, .val (.long vn), .second, .val (.ref b1), .unset, .unset, .unset, .unset, .unset, .unset, .unset, .unset] [(.long q2), (.long va)])) _
    refine XS.lsub X7.here hx rfl (hb hby at_86) rfl ?_
    show Steps p.tables e below (T7.setTop (mkF m 87 #[.val (.int p1), .val (.long q2), .second, .val (.long q3), .second, .val (.long q4), .second, .val (.long q5), .second, .val (.int vt), .val (.long tk), .second, .val (.long lp), .second, .val (.long va), .second, .val (.long vb), .second, .val (.long vn), .second, .val (.ref b1), .unset, .unset, .unset, .unset, .unset, .unset, .unset, .unset] [(.long (va - q2))])) _
    refine XS.lload X7.here hx rfl (hb hby at_87) rfl ?_
    show Steps p.tables e below (T7.setTop (mkF m 89 #[.val (.int p1), .val (.long q2), .second, .val (.long q3), .second, .val (.long q4), .second, .val (.long q5), .second, .val (.int vt), .val (.long tk), .second, .val (.long lp), .second, .val (.long va), .second, .val (.long vb), .second, .val (.long vn), .second, .val (.ref b1), .unset, .unset, .unset, .unset, .unset, .unset, .unset, .unset] [(.long lp), (.long (va - q2))])) _
    refine XS.lcmp X7.here hx rfl (hb hby at_89) rfl ?_
    show Steps p.tables e below (T7.setTop (mkF m 90 #[.val (.int p1), .val (.long q2), .second, .val (.long q3), .second, .val (.long q4), .second, .val (.long q5), .second, .val (.int vt), .val (.long tk), .second, .val (.long lp), .second, .val (.long va), .second, .val (.long vb), .second, .val (.long vn), .second, .val (.ref b1), .unset, .unset, .unset, .unset, .unset, .unset, .unset, .unset] [(.int (lcmpW (va - q2) lp))])) _
    refine XS.ifYes X7.here hx rfl (pc0 := 90) (pc' := 101) rfl (hb hby at_90) rfl ((if0 _ _).trans (flt hc90).2.2.2) (by decide) (by decide) ?_
    show Steps p.tables e below (T7.setTop (mkF m 101 #[.val (.int p1), .val (.long q2), .second, .val (.long q3), .second, .val (.long q4), .second, .val (.long q5), .second, .val (.int vt), .val (.long tk), .second, .val (.long lp), .second, .val (.long va), .second, .val (.long vb), .second, .val (.long vn), .second, .val (.ref b1), .unset, .unset, .unset, .unset, .unset, .unset, .unset, .unset] [])) _
    refine XS.lloadN X7.here hx rfl (hb hby at_101) rfl ?_
    show Steps p.tables e below (T7.setTop (mkF m 102 #[.val (.int p1), .val (.long q2), .second, .val (.long q3), .second, .val (.long q4), .second, .val (.long q5), .second, .val (.int vt), .val (.long tk), .second, .val (.long lp), .second, .val (.long va), .second, .val (.long vb), .second, .val (.long vn), .second, .val (.ref b1), .unset, .unset, .unset, .unset, .unset, .unset, .unset, .unset] [(.long q2)])) _
    refine XS.lstore X7.here hx rfl (hb hby at_102) rfl (l' := #[.val (.int p1), .val (.long q2), .second, .val (.long q3), .second, .val (.long q4), .second, .val (.long q5), .second, .val (.int vt), .val (.long tk), .second, .val (.long lp), .second, .val (.long va), .second, .val (.long vb), .second, .val (.long vn), .second, .val (.ref b1), .val (.long q2), .second, .unset, .unset, .unset, .unset, .unset, .unset]) rfl ?_
    show Steps p.tables e below (T7.setTop (mkF m 104 #[.val (.int p1), .val (.long q2), .second, .val (.long q3), .second, .val (.long q4), .second, .val (.long q5), .second, .val (.int vt), .val (.long tk), .second, .val (.long lp), .second, .val (.long va), .second, .val (.long vb), .second, .val (.long vn), .second, .val (.ref b1), .val (.long q2), .second, .unset, .unset, .unset, .unset, .unset, .unset] [])) _
    refine XS.lload X7.here hx rfl (hb hby at_104) rfl ?_
    show Steps p.tables e below (T7.setTop (mkF m 106 #[.val (.int p1), .val (.long q2), .second, .val (.long q3), .second, .val (.long q4), .second, .val (.long q5), .second, .val (.int vt), .val (.long tk), .second, .val (.long lp), .second, .val (.long va), .second, .val (.long vb), .second, .val (.long vn), .second, .val (.ref b1), .val (.long q2), .second, .unset, .unset, .unset, .unset, .unset, .unset] [(.long vb)])) _
    refine XS.lload X7.here hx rfl (hb hby at_106) rfl ?_
    show Steps p.tables e below (T7.setTop (mkF m 108 #[.val (.int p1), .val (.long q2), .second, .val (.long q3), .second, .val (.long q4), .second, .val (.long q5), .second, .val (.int vt), .val (.long tk), .second, .val (.long lp), .second, .val (.long va), .second, .val (.long vb), .second, .val (.long vn), .second, .val (.ref b1), .val (.long q2), .second, .unset, .unset, .unset, .unset, .unset, .unset] [(.long va), (.long vb)])) _
    refine XS.lsub X7.here hx rfl (hb hby at_108) rfl ?_
    show Steps p.tables e below (T7.setTop (mkF m 109 #[.val (.int p1), .val (.long q2), .second, .val (.long q3), .second, .val (.long q4), .second, .val (.long q5), .second, .val (.int vt), .val (.long tk), .second, .val (.long lp), .second, .val (.long va), .second, .val (.long vb), .second, .val (.long vn), .second, .val (.ref b1), .val (.long q2), .second, .unset, .unset, .unset, .unset, .unset, .unset] [(.long (vb - va))])) _
    refine XS.lload X7.here hx rfl (hb hby at_109) rfl ?_
    show Steps p.tables e below (T7.setTop (mkF m 111 #[.val (.int p1), .val (.long q2), .second, .val (.long q3), .second, .val (.long q4), .second, .val (.long q5), .second, .val (.int vt), .val (.long tk), .second, .val (.long lp), .second, .val (.long va), .second, .val (.long vb), .second, .val (.long vn), .second, .val (.ref b1), .val (.long q2), .second, .unset, .unset, .unset, .unset, .unset, .unset] [(.long lp), (.long (vb - va))])) _
    refine XS.lcmp X7.here hx rfl (hb hby at_111) rfl ?_
    show Steps p.tables e below (T7.setTop (mkF m 112 #[.val (.int p1), .val (.long q2), .second, .val (.long q3), .second, .val (.long q4), .second, .val (.long q5), .second, .val (.int vt), .val (.long tk), .second, .val (.long lp), .second, .val (.long va), .second, .val (.long vb), .second, .val (.long vn), .second, .val (.ref b1), .val (.long q2), .second, .unset, .unset, .unset, .unset, .unset, .unset] [(.int (lcmpW (vb - va) lp))])) _
    refine XS.ifYes X7.here hx rfl (pc0 := 112) (pc' := 123) rfl (hb hby at_112) rfl ((if0 _ _).trans (flt hc112).2.2.2) (by decide) (by decide) ?_
    show Steps p.tables e below (T7.setTop (mkF m 123 #[.val (.int p1), .val (.long q2), .second, .val (.long q3), .second, .val (.long q4), .second, .val (.long q5), .second, .val (.int vt), .val (.long tk), .second, .val (.long lp), .second, .val (.long va), .second, .val (.long vb), .second, .val (.long vn), .second, .val (.ref b1), .val (.long q2), .second, .unset, .unset, .unset, .unset, .unset, .unset] [])) _
    refine XS.lload X7.here hx rfl (hb hby at_123) rfl ?_
    show Steps p.tables e below (T7.setTop (mkF m 125 #[.val (.int p1), .val (.long q2), .second, .val (.long q3), .second, .val (.long q4), .second, .val (.long q5), .second, .val (.int vt), .val (.long tk), .second, .val (.long lp), .second, .val (.long va), .second, .val (.long vb), .second, .val (.long vn), .second, .val (.ref b1), .val (.long q2), .second, .unset, .unset, .unset, .unset, .unset, .unset] [(.long q2)])) _
    refine XS.lstore X7.here hx rfl (hb hby at_125) rfl (l' := #[.val (.int p1), .val (.long q2), .second, .val (.long q3), .second, .val (.long q4), .second, .val (.long q5), .second, .val (.int vt), .val (.long tk), .second, .val (.long lp), .second, .val (.long va), .second, .val (.long vb), .second, .val (.long vn), .second, .val (.ref b1), .val (.long q2), .second, .val (.long q2), .second, .unset, .unset, .unset, .unset]) rfl ?_
    show Steps p.tables e below (T7.setTop (mkF m 127 #[.val (.int p1), .val (.long q2), .second, .val (.long q3), .second, .val (.long q4), .second, .val (.long q5), .second, .val (.int vt), .val (.long tk), .second, .val (.long lp), .second, .val (.long va), .second, .val (.long vb), .second, .val (.long vn), .second, .val (.ref b1), .val (.long q2), .second, .val (.long q2), .second, .unset, .unset, .unset, .unset] [])) _
    refine XS.lload X7.here hx rfl (hb hby at_127) rfl ?_
    show Steps p.tables e below (T7.setTop (mkF m 129 #[.val (.int p1), .val (.long q2), .second, .val (.long q3), .second, .val (.long q4), .second, .val (.long q5), .second, .val (.int vt), .val (.long tk), .second, .val (.long lp), .second, .val (.long va), .second, .val (.long vb), .second, .val (.long vn), .second, .val (.ref b1), .val (.long q2), .second, .val (.long q2), .second, .unset, .unset, .unset, .unset] [(.long vb)])) _
    refine XS.lstore X7.here hx rfl (hb hby at_129) rfl (l' := #[.val (.int p1), .val (.long q2), .second, .val (.long q3), .second, .val (.long q4), .second, .val (.long q5), .second, .val (.int vt), .val (.long tk), .second, .val (.long lp), .second, .val (.long va), .second, .val (.long vb), .second, .val (.long vn), .second, .val (.ref b1), .val (.long q2), .second, .val (.long q2), .second, .val (.long vb), .second, .unset, .unset]) rfl ?_
    show Steps p.tables e below (T7.setTop (mkF m 131 #[.val (.int p1), .val (.long q2), .second, .val (.long q3), .second, .val (.long q4), .second, .val (.long q5), .second, .val (.int vt), .val (.long tk), .second, .val (.long lp), .second, .val (.long va), .second, .val (.long vb), .second, .val (.long vn), .second, .val (.ref b1), .val (.long q2), .second, .val (.long q2), .second, .val (.long vb), .second, .unset, .unset] [])) _
    refine XS.lload X7.here hx rfl (hb hby at_131) rfl ?_
    show Steps p.tables e below (T7.setTop (mkF m 133 #[.val (.int p1), .val (.long q2), .second, .val (.long q3), .second, .val (.long q4), .second, .val (.long q5), .second, .val (.int vt), .val (.long tk), .second, .val (.long lp), .second, .val (.long va), .second, .val (.long vb), .second, .val (.long vn), .second, .val (.ref b1), .val (.long q2), .second, .val (.long q2), .second, .val (.long vb), .second, .unset, .unset] [(.long q2)])) _
    refine XS.lload X7.here hx rfl (hb hby at_133) rfl ?_
    show Steps p.tables e below (T7.setTop (mkF m 135 #[.val (.int p1), .val (.long q2), .second, .val (.long q3), .second, .val (.long q4), .second, .val (.long q5), .second, .val (.int vt), .val (.long tk), .second, .val (.long lp), .second, .val (.long va), .second, .val (.long vb), .second, .val (.long vn), .second, .val (.ref b1), .val (.long q2), .second, .val (.long q2), .second, .val (.long vb), .second, .unset, .unset] [(.long tk), (.long q2)])) _
    refine XS.lsub X7.here hx rfl (hb hby at_135) rfl ?_
    show Steps p.tables e below (T7.setTop (mkF m 136 #[.val (.int p1), .val (.long q2), .second, .val (.long q3), .second, .val (.long q4), .second, .val (.long q5), .second, .val (.int vt), .val (.long tk), .second, .val (.long lp), .second, .val (.long va), .second, .val (.long vb), .second, .val (.long vn), .second, .val (.ref b1), .val (.long q2), .second, .val (.long q2), .second, .val (.long vb), .second, .unset, .unset] [(.long (q2 - tk))])) _
    rw [hm1]
    show Steps p.tables e below (T7.setTop (mkF m 136 #[.val (.int p1), .val (.long q2), .second, .val (.long q3), .second, .val (.long q4), .second, .val (.long q5), .second, .val (.int vt), .val (.long tk), .second, .val (.long lp), .second, .val (.long va), .second, .val (.long vb), .second, .val (.long vn), .second, .val (.ref b1), .val (.long q2), .second, .val (.long q2), .second, .val (.long vb), .second, .unset, .unset] [(.long vm1)])) _
    refine XS.lconst X7.here hx rfl (hb hby at_136) ?_
    show Steps p.tables e below (T7.setTop (mkF m 137 #[.val (.int p1), .val (.long q2), .second, .val (.long q3), .second, .val (.long q4), .second, .val (.long q5), .second, .val (.int vt), .val (.long tk), .second, .val (.long lp), .second, .val (.long va), .second, .val (.long vb), .second, .val (.long vn), .second, .val (.ref b1), .val (.long q2), .second, .val (.long q2), .second, .val (.long vb), .second, .unset, .unset] [(.long 1), (.long vm1)])) _
    refine XS.lsub X7.here hx rfl (hb hby at_137) rfl ?_
    show Steps p.tables e below (T7.setTop (mkF m 138 #[.val (.int p1), .val (.long q2), .second, .val (.long q3), .second, .val (.long q4), .second, .val (.long q5), .second, .val (.int vt), .val (.long tk), .second, .val (.long lp), .second, .val (.long va), .second, .val (.long vb), .second, .val (.long vn), .second, .val (.ref b1), .val (.long q2), .second, .val (.long q2), .second, .val (.long vb), .second, .unset, .unset] [(.long (vm1 - (1 : Int64)))])) _
    rw [hm]
    show Steps p.tables e below (T7.setTop (mkF m 138 #[.val (.int p1), .val (.long q2), .second, .val (.long q3), .second, .val (.long q4), .second, .val (.long q5), .second, .val (.int vt), .val (.long tk), .second, .val (.long lp), .second, .val (.long va), .second, .val (.long vb), .second, .val (.long vn), .second, .val (.ref b1), .val (.long q2), .second, .val (.long q2), .second, .val (.long vb), .second, .unset, .unset] [(.long vmm)])) _
    refine XS.lstore X7.here hx rfl (hb hby at_138) rfl (l' := #[.val (.int p1), .val (.long q2), .second, .val (.long q3), .second, .val (.long q4), .second, .val (.long q5), .second, .val (.int vt), .val (.long tk), .second, .val (.long lp), .second, .val (.long va), .second, .val (.long vb), .second, .val (.long vn), .second, .val (.ref b1), .val (.long q2), .second, .val (.long q2), .second, .val (.long vb), .second, .val (.long vmm), .second]) rfl ?_
    show Steps p.tables e below (T7.setTop (mkF m 140 #[.val (.int p1), .val (.long q2), .second, .val (.long q3), .second, .val (.long q4), .second, .val (.long q5), .second, .val (.int vt), .val (.long tk), .second, .val (.long lp), .second, .val (.long va), .second, .val (.long vb), .second, .val (.long vn), .second, .val (.ref b1), .val (.long q2), .second, .val (.long q2), .second, .val (.long vb), .second, .val (.long vmm), .second] [])) _
    refine XS.aload X7.here hx rfl (hb hby at_140) rfl rfl ?_
    show Steps p.tables e below (T7.setTop (mkF m 142 #[.val (.int p1), .val (.long q2), .second, .val (.long q3), .second, .val (.long q4), .second, .val (.long q5), .second, .val (.int vt), .val (.long tk), .second, .val (.long lp), .second, .val (.long va), .second, .val (.long vb), .second, .val (.long vn), .second, .val (.ref b1), .val (.long q2), .second, .val (.long q2), .second, .val (.long vb), .second, .val (.long vmm), .second] [(.ref b1)])) _
    refine XS.lload X7.here hx rfl (hb hby at_142) rfl ?_
    show Steps p.tables e below (T7.setTop (mkF m 144 #[.val (.int p1), .val (.long q2), .second, .val (.long q3), .second, .val (.long q4), .second, .val (.long q5), .second, .val (.int vt), .val (.long tk), .second, .val (.long lp), .second, .val (.long va), .second, .val (.long vb), .second, .val (.long vn), .second, .val (.ref b1), .val (.long q2), .second, .val (.long q2), .second, .val (.long vb), .second, .val (.long vmm), .second] [(.long vn), (.ref b1)])) _
    refine st8.trans ?_
    show Steps p.tables e below (T8.setTop (mkF m 147 #[.val (.int p1), .val (.long q2), .second, .val (.long q3), .second, .val (.long q4), .second, .val (.long q5), .second, .val (.int vt), .val (.long tk), .second, .val (.long lp), .second, .val (.long va), .second, .val (.long vb), .second, .val (.long vn), .second, .val (.ref b1), .val (.long q2), .second, .val (.long q2), .second, .val (.long vb), .second, .val (.long vmm), .second] [(.long (own_ref vn vb q2 tk lp))])) _
    refine XS.lload X8.here hx rfl (hb hby at_147) rfl ?_
    show Steps p.tables e below (T8.setTop (mkF m 149 #[.val (.int p1), .val (.long q2), .second, .val (.long q3), .second, .val (.long q4), .second, .val (.long q5), .second, .val (.int vt), .val (.long tk), .second, .val (.long lp), .second, .val (.long va), .second, .val (.long vb), .second, .val (.long vn), .second, .val (.ref b1), .val (.long q2), .second, .val (.long q2), .second, .val (.long vb), .second, .val (.long vmm), .second] [(.long vn), (.long (own_ref vn vb q2 tk lp))])) _
    refine XS.lload X8.here hx rfl (hb hby at_149) rfl ?_
    show Steps p.tables e below (T8.setTop (mkF m 151 #[.val (.int p1), .val (.long q2), .second, .val (.long q3), .second, .val (.long q4), .second, .val (.long q5), .second, .val (.int vt), .val (.long tk), .second, .val (.long lp), .second, .val (.long va), .second, .val (.long vb), .second, .val (.long vn), .second, .val (.ref b1), .val (.long q2), .second, .val (.long q2), .second, .val (.long vb), .second, .val (.long vmm), .second] [(.long vb), (.long vn), (.long (own_ref vn vb q2 tk lp))])) _
    refine XS.lload X8.here hx rfl (hb hby at_151) rfl ?_
    show Steps p.tables e below (T8.setTop (mkF m 153 #[.val (.int p1), .val (.long q2), .second, .val (.long q3), .second, .val (.long q4), .second, .val (.long q5), .second, .val (.int vt), .val (.long tk), .second, .val (.long lp), .second, .val (.long va), .second, .val (.long vb), .second, .val (.long vn), .second, .val (.ref b1), .val (.long q2), .second, .val (.long q2), .second, .val (.long vb), .second, .val (.long vmm), .second] [(.long q2), (.long vb), (.long vn), (.long (own_ref vn vb q2 tk lp))])) _
    refine XS.lload X8.here hx rfl (hb hby at_153) rfl ?_
    show Steps p.tables e below (T8.setTop (mkF m 155 #[.val (.int p1), .val (.long q2), .second, .val (.long q3), .second, .val (.long q4), .second, .val (.long q5), .second, .val (.int vt), .val (.long tk), .second, .val (.long lp), .second, .val (.long va), .second, .val (.long vb), .second, .val (.long vn), .second, .val (.ref b1), .val (.long q2), .second, .val (.long q2), .second, .val (.long vb), .second, .val (.long vmm), .second] [(.long tk), (.long q2), (.long vb), (.long vn), (.long (own_ref vn vb q2 tk lp))])) _
    refine XS.lload X8.here hx rfl (hb hby at_155) rfl ?_
    show Steps p.tables e below (T8.setTop (mkF m 157 #[.val (.int p1), .val (.long q2), .second, .val (.long q3), .second, .val (.long q4), .second, .val (.long q5), .second, .val (.int vt), .val (.long tk), .second, .val (.long lp), .second, .val (.long va), .second, .val (.long vb), .second, .val (.long vn), .second, .val (.ref b1), .val (.long q2), .second, .val (.long q2), .second, .val (.long vb), .second, .val (.long vmm), .second] [(.long lp), (.long tk), (.long q2), (.long vb), (.long vn), (.long (own_ref vn vb q2 tk lp))])) _
    refine st9 _ ?_
    show Steps p.tables e below (T9.setTop (mkF m 160 #[.val (.int p1), .val (.long q2), .second, .val (.long q3), .second, .val (.long q4), .second, .val (.long q5), .second, .val (.int vt), .val (.long tk), .second, .val (.long lp), .second, .val (.long va), .second, .val (.long vb), .second, .val (.long vn), .second, .val (.ref b1), .val (.long q2), .second, .val (.long q2), .second, .val (.long vb), .second, .val (.long vmm), .second] [(.long (own_ref vn vb q2 tk lp)), (.long (own_ref vn vb q2 tk lp))])) _
    refine XS.lcmp X9.here hx rfl (hb hby at_160) rfl ?_
    show Steps p.tables e below (T9.setTop (mkF m 161 #[.val (.int p1), .val (.long q2), .second, .val (.long q3), .second, .val (.long q4), .second, .val (.long q5), .second, .val (.int vt), .val (.long tk), .second, .val (.long lp), .second, .val (.long va), .second, .val (.long vb), .second, .val (.long vn), .second, .val (.ref b1), .val (.long q2), .second, .val (.long q2), .second, .val (.long vb), .second, .val (.long vmm), .second] [(.int (lcmpW (own_ref vn vb q2 tk lp) (own_ref vn vb q2 tk lp)))])) _
    rw [own_lcmp0]
    show Steps p.tables e below (T9.setTop (mkF m 161 #[.val (.int p1), .val (.long q2), .second, .val (.long q3), .second, .val (.long q4), .second, .val (.long q5), .second, .val (.int vt), .val (.long tk), .second, .val (.long lp), .second, .val (.long va), .second, .val (.long vb), .second, .val (.long vn), .second, .val (.ref b1), .val (.long q2), .second, .val (.long q2), .second, .val (.long vb), .second, .val (.long vmm), .second] [(.int 0)])) _
    refine XS.ifNo X9.here hx rfl (hb hby at_161) rfl ((if0 _ _).trans (teq (by decide : (0 : Int32) = (0 : Int32))).2) ?_
    show Steps p.tables e below (T9.setTop (mkF m 164 #[.val (.int p1), .val (.long q2), .second, .val (.long q3), .second, .val (.long q4), .second, .val (.long q5), .second, .val (.int vt), .val (.long tk), .second, .val (.long lp), .second, .val (.long va), .second, .val (.long vb), .second, .val (.long vn), .second, .val (.ref b1), .val (.long q2), .second, .val (.long q2), .second, .val (.long vb), .second, .val (.long vmm), .second] [])) _
    refine XS.aload X9.here hx rfl (hb hby at_164) rfl rfl ?_
    show Steps p.tables e below (T9.setTop (mkF m 166 #[.val (.int p1), .val (.long q2), .second, .val (.long q3), .second, .val (.long q4), .second, .val (.long q5), .second, .val (.int vt), .val (.long tk), .second, .val (.long lp), .second, .val (.long va), .second, .val (.long vb), .second, .val (.long vn), .second, .val (.ref b1), .val (.long q2), .second, .val (.long q2), .second, .val (.long vb), .second, .val (.long vmm), .second] [(.ref b1)])) _
    refine XS.lload X9.here hx rfl (hb hby at_166) rfl ?_
    show Steps p.tables e below (T9.setTop (mkF m 168 #[.val (.int p1), .val (.long q2), .second, .val (.long q3), .second, .val (.long q4), .second, .val (.long q5), .second, .val (.int vt), .val (.long tk), .second, .val (.long lp), .second, .val (.long va), .second, .val (.long vb), .second, .val (.long vn), .second, .val (.ref b1), .val (.long q2), .second, .val (.long q2), .second, .val (.long vb), .second, .val (.long vmm), .second] [(.long vb), (.ref b1)])) _
    refine XS.lconst X9.here hx rfl (hb hby at_168) ?_
    show Steps p.tables e below (T9.setTop (mkF m 169 #[.val (.int p1), .val (.long q2), .second, .val (.long q3), .second, .val (.long q4), .second, .val (.long q5), .second, .val (.int vt), .val (.long tk), .second, .val (.long lp), .second, .val (.long va), .second, .val (.long vb), .second, .val (.long vn), .second, .val (.ref b1), .val (.long q2), .second, .val (.long q2), .second, .val (.long vb), .second, .val (.long vmm), .second] [(.long 1), (.long vb), (.ref b1)])) _
    refine XS.lsub X9.here hx rfl (hb hby at_169) rfl ?_
    show Steps p.tables e below (T9.setTop (mkF m 170 #[.val (.int p1), .val (.long q2), .second, .val (.long q3), .second, .val (.long q4), .second, .val (.long q5), .second, .val (.int vt), .val (.long tk), .second, .val (.long lp), .second, .val (.long va), .second, .val (.long vb), .second, .val (.long vn), .second, .val (.ref b1), .val (.long q2), .second, .val (.long q2), .second, .val (.long vb), .second, .val (.long vmm), .second] [(.long (vb - (1 : Int64))), (.ref b1)])) _
    rw [hbm]
    show Steps p.tables e below (T9.setTop (mkF m 170 #[.val (.int p1), .val (.long q2), .second, .val (.long q3), .second, .val (.long q4), .second, .val (.long q5), .second, .val (.int vt), .val (.long tk), .second, .val (.long lp), .second, .val (.long va), .second, .val (.long vb), .second, .val (.long vn), .second, .val (.ref b1), .val (.long q2), .second, .val (.long q2), .second, .val (.long vb), .second, .val (.long vmm), .second] [(.long bm), (.ref b1)])) _
    refine st10.trans ?_
    show Steps p.tables e below (T10.setTop (mkF m 173 #[.val (.int p1), .val (.long q2), .second, .val (.long q3), .second, .val (.long q4), .second, .val (.long q5), .second, .val (.int vt), .val (.long tk), .second, .val (.long lp), .second, .val (.long va), .second, .val (.long vb), .second, .val (.long vn), .second, .val (.ref b1), .val (.long q2), .second, .val (.long q2), .second, .val (.long vb), .second, .val (.long vmm), .second] [(.long (own_ref bm vb q2 tk lp))])) _
    refine XS.lload X10.here hx rfl (hb hby at_173) rfl ?_
    show Steps p.tables e below (T10.setTop (mkF m 175 #[.val (.int p1), .val (.long q2), .second, .val (.long q3), .second, .val (.long q4), .second, .val (.long q5), .second, .val (.int vt), .val (.long tk), .second, .val (.long lp), .second, .val (.long va), .second, .val (.long vb), .second, .val (.long vn), .second, .val (.ref b1), .val (.long q2), .second, .val (.long q2), .second, .val (.long vb), .second, .val (.long vmm), .second] [(.long vb), (.long (own_ref bm vb q2 tk lp))])) _
    refine XS.lconst X10.here hx rfl (hb hby at_175) ?_
    show Steps p.tables e below (T10.setTop (mkF m 176 #[.val (.int p1), .val (.long q2), .second, .val (.long q3), .second, .val (.long q4), .second, .val (.long q5), .second, .val (.int vt), .val (.long tk), .second, .val (.long lp), .second, .val (.long va), .second, .val (.long vb), .second, .val (.long vn), .second, .val (.ref b1), .val (.long q2), .second, .val (.long q2), .second, .val (.long vb), .second, .val (.long vmm), .second] [(.long 1), (.long vb), (.long (own_ref bm vb q2 tk lp))])) _
    refine XS.lsub X10.here hx rfl (hb hby at_176) rfl ?_
    show Steps p.tables e below (T10.setTop (mkF m 177 #[.val (.int p1), .val (.long q2), .second, .val (.long q3), .second, .val (.long q4), .second, .val (.long q5), .second, .val (.int vt), .val (.long tk), .second, .val (.long lp), .second, .val (.long va), .second, .val (.long vb), .second, .val (.long vn), .second, .val (.ref b1), .val (.long q2), .second, .val (.long q2), .second, .val (.long vb), .second, .val (.long vmm), .second] [(.long (vb - (1 : Int64))), (.long (own_ref bm vb q2 tk lp))])) _
    rw [hbm]
    show Steps p.tables e below (T10.setTop (mkF m 177 #[.val (.int p1), .val (.long q2), .second, .val (.long q3), .second, .val (.long q4), .second, .val (.long q5), .second, .val (.int vt), .val (.long tk), .second, .val (.long lp), .second, .val (.long va), .second, .val (.long vb), .second, .val (.long vn), .second, .val (.ref b1), .val (.long q2), .second, .val (.long q2), .second, .val (.long vb), .second, .val (.long vmm), .second] [(.long bm), (.long (own_ref bm vb q2 tk lp))])) _
    refine XS.lload X10.here hx rfl (hb hby at_177) rfl ?_
    show Steps p.tables e below (T10.setTop (mkF m 179 #[.val (.int p1), .val (.long q2), .second, .val (.long q3), .second, .val (.long q4), .second, .val (.long q5), .second, .val (.int vt), .val (.long tk), .second, .val (.long lp), .second, .val (.long va), .second, .val (.long vb), .second, .val (.long vn), .second, .val (.ref b1), .val (.long q2), .second, .val (.long q2), .second, .val (.long vb), .second, .val (.long vmm), .second] [(.long vb), (.long bm), (.long (own_ref bm vb q2 tk lp))])) _
    refine XS.lload X10.here hx rfl (hb hby at_179) rfl ?_
    show Steps p.tables e below (T10.setTop (mkF m 181 #[.val (.int p1), .val (.long q2), .second, .val (.long q3), .second, .val (.long q4), .second, .val (.long q5), .second, .val (.int vt), .val (.long tk), .second, .val (.long lp), .second, .val (.long va), .second, .val (.long vb), .second, .val (.long vn), .second, .val (.ref b1), .val (.long q2), .second, .val (.long q2), .second, .val (.long vb), .second, .val (.long vmm), .second] [(.long q2), (.long vb), (.long bm), (.long (own_ref bm vb q2 tk lp))])) _
    refine XS.lload X10.here hx rfl (hb hby at_181) rfl ?_
    show Steps p.tables e below (T10.setTop (mkF m 183 #[.val (.int p1), .val (.long q2), .second, .val (.long q3), .second, .val (.long q4), .second, .val (.long q5), .second, .val (.int vt), .val (.long tk), .second, .val (.long lp), .second, .val (.long va), .second, .val (.long vb), .second, .val (.long vn), .second, .val (.ref b1), .val (.long q2), .second, .val (.long q2), .second, .val (.long vb), .second, .val (.long vmm), .second] [(.long tk), (.long q2), (.long vb), (.long bm), (.long (own_ref bm vb q2 tk lp))])) _
    refine XS.lload X10.here hx rfl (hb hby at_183) rfl ?_
    show Steps p.tables e below (T10.setTop (mkF m 185 #[.val (.int p1), .val (.long q2), .second, .val (.long q3), .second, .val (.long q4), .second, .val (.long q5), .second, .val (.int vt), .val (.long tk), .second, .val (.long lp), .second, .val (.long va), .second, .val (.long vb), .second, .val (.long vn), .second, .val (.ref b1), .val (.long q2), .second, .val (.long q2), .second, .val (.long vb), .second, .val (.long vmm), .second] [(.long lp), (.long tk), (.long q2), (.long vb), (.long bm), (.long (own_ref bm vb q2 tk lp))])) _
    refine st11 _ ?_
    show Steps p.tables e below (T11.setTop (mkF m 188 #[.val (.int p1), .val (.long q2), .second, .val (.long q3), .second, .val (.long q4), .second, .val (.long q5), .second, .val (.int vt), .val (.long tk), .second, .val (.long lp), .second, .val (.long va), .second, .val (.long vb), .second, .val (.long vn), .second, .val (.ref b1), .val (.long q2), .second, .val (.long q2), .second, .val (.long vb), .second, .val (.long vmm), .second] [(.long (own_ref bm vb q2 tk lp)), (.long (own_ref bm vb q2 tk lp))])) _
    refine XS.lcmp X11.here hx rfl (hb hby at_188) rfl ?_
    show Steps p.tables e below (T11.setTop (mkF m 189 #[.val (.int p1), .val (.long q2), .second, .val (.long q3), .second, .val (.long q4), .second, .val (.long q5), .second, .val (.int vt), .val (.long tk), .second, .val (.long lp), .second, .val (.long va), .second, .val (.long vb), .second, .val (.long vn), .second, .val (.ref b1), .val (.long q2), .second, .val (.long q2), .second, .val (.long vb), .second, .val (.long vmm), .second] [(.int (lcmpW (own_ref bm vb q2 tk lp) (own_ref bm vb q2 tk lp)))])) _
    rw [own_lcmp0]
    show Steps p.tables e below (T11.setTop (mkF m 189 #[.val (.int p1), .val (.long q2), .second, .val (.long q3), .second, .val (.long q4), .second, .val (.long q5), .second, .val (.int vt), .val (.long tk), .second, .val (.long lp), .second, .val (.long va), .second, .val (.long vb), .second, .val (.long vn), .second, .val (.ref b1), .val (.long q2), .second, .val (.long q2), .second, .val (.long vb), .second, .val (.long vmm), .second] [(.int 0)])) _
    refine XS.ifNo X11.here hx rfl (hb hby at_189) rfl ((if0 _ _).trans (teq (by decide : (0 : Int32) = (0 : Int32))).2) ?_
    show Steps p.tables e below (T11.setTop (mkF m 192 #[.val (.int p1), .val (.long q2), .second, .val (.long q3), .second, .val (.long q4), .second, .val (.long q5), .second, .val (.int vt), .val (.long tk), .second, .val (.long lp), .second, .val (.long va), .second, .val (.long vb), .second, .val (.long vn), .second, .val (.ref b1), .val (.long q2), .second, .val (.long q2), .second, .val (.long vb), .second, .val (.long vmm), .second] [])) _
    refine XS.aload X11.here hx rfl (hb hby at_192) rfl rfl ?_
    show Steps p.tables e below (T11.setTop (mkF m 194 #[.val (.int p1), .val (.long q2), .second, .val (.long q3), .second, .val (.long q4), .second, .val (.long q5), .second, .val (.int vt), .val (.long tk), .second, .val (.long lp), .second, .val (.long va), .second, .val (.long vb), .second, .val (.long vn), .second, .val (.ref b1), .val (.long q2), .second, .val (.long q2), .second, .val (.long vb), .second, .val (.long vmm), .second] [(.ref b1)])) _
    refine XS.lload X11.here hx rfl (hb hby at_194) rfl ?_
    show Steps p.tables e below (T11.setTop (mkF m 196 #[.val (.int p1), .val (.long q2), .second, .val (.long q3), .second, .val (.long q4), .second, .val (.long q5), .second, .val (.int vt), .val (.long tk), .second, .val (.long lp), .second, .val (.long va), .second, .val (.long vb), .second, .val (.long vn), .second, .val (.ref b1), .val (.long q2), .second, .val (.long q2), .second, .val (.long vb), .second, .val (.long vmm), .second] [(.long vb), (.ref b1)])) _
    refine XS.lload X11.here hx rfl (hb hby at_196) rfl ?_
    show Steps p.tables e below (T11.setTop (mkF m 198 #[.val (.int p1), .val (.long q2), .second, .val (.long q3), .second, .val (.long q4), .second, .val (.long q5), .second, .val (.int vt), .val (.long tk), .second, .val (.long lp), .second, .val (.long va), .second, .val (.long vb), .second, .val (.long vn), .second, .val (.ref b1), .val (.long q2), .second, .val (.long q2), .second, .val (.long vb), .second, .val (.long vmm), .second] [(.long lp), (.long vb), (.ref b1)])) _
    refine XS.ladd X11.here hx rfl (hb hby at_198) rfl ?_
    show Steps p.tables e below (T11.setTop (mkF m 199 #[.val (.int p1), .val (.long q2), .second, .val (.long q3), .second, .val (.long q4), .second, .val (.long q5), .second, .val (.int vt), .val (.long tk), .second, .val (.long lp), .second, .val (.long va), .second, .val (.long vb), .second, .val (.long vn), .second, .val (.ref b1), .val (.long q2), .second, .val (.long q2), .second, .val (.long vb), .second, .val (.long vmm), .second] [(.long (vb + lp)), (.ref b1)])) _
    rw [hbl]
    show Steps p.tables e below (T11.setTop (mkF m 199 #[.val (.int p1), .val (.long q2), .second, .val (.long q3), .second, .val (.long q4), .second, .val (.long q5), .second, .val (.int vt), .val (.long tk), .second, .val (.long lp), .second, .val (.long va), .second, .val (.long vb), .second, .val (.long vn), .second, .val (.ref b1), .val (.long q2), .second, .val (.long q2), .second, .val (.long vb), .second, .val (.long vmm), .second] [(.long bl), (.ref b1)])) _
    refine st12.trans ?_
    show Steps p.tables e below (T12.setTop (mkF m 202 #[.val (.int p1), .val (.long q2), .second, .val (.long q3), .second, .val (.long q4), .second, .val (.long q5), .second, .val (.int vt), .val (.long tk), .second, .val (.long lp), .second, .val (.long va), .second, .val (.long vb), .second, .val (.long vn), .second, .val (.ref b1), .val (.long q2), .second, .val (.long q2), .second, .val (.long vb), .second, .val (.long vmm), .second] [(.long (own_ref bl vb q2 tk lp))])) _
    refine XS.lload X12.here hx rfl (hb hby at_202) rfl ?_
    show Steps p.tables e below (T12.setTop (mkF m 204 #[.val (.int p1), .val (.long q2), .second, .val (.long q3), .second, .val (.long q4), .second, .val (.long q5), .second, .val (.int vt), .val (.long tk), .second, .val (.long lp), .second, .val (.long va), .second, .val (.long vb), .second, .val (.long vn), .second, .val (.ref b1), .val (.long q2), .second, .val (.long q2), .second, .val (.long vb), .second, .val (.long vmm), .second] [(.long vb), (.long (own_ref bl vb q2 tk lp))])) _
    refine XS.lload X12.here hx rfl (hb hby at_204) rfl ?_
    show Steps p.tables e below (T12.setTop (mkF m 206 #[.val (.int p1), .val (.long q2), .second, .val (.long q3), .second, .val (.long q4), .second, .val (.long q5), .second, .val (.int vt), .val (.long tk), .second, .val (.long lp), .second, .val (.long va), .second, .val (.long vb), .second, .val (.long vn), .second, .val (.ref b1), .val (.long q2), .second, .val (.long q2), .second, .val (.long vb), .second, .val (.long vmm), .second] [(.long lp), (.long vb), (.long (own_ref bl vb q2 tk lp))])) _
    refine XS.ladd X12.here hx rfl (hb hby at_206) rfl ?_
    show Steps p.tables e below (T12.setTop (mkF m 207 #[.val (.int p1), .val (.long q2), .second, .val (.long q3), .second, .val (.long q4), .second, .val (.long q5), .second, .val (.int vt), .val (.long tk), .second, .val (.long lp), .second, .val (.long va), .second, .val (.long vb), .second, .val (.long vn), .second, .val (.ref b1), .val (.long q2), .second, .val (.long q2), .second, .val (.long vb), .second, .val (.long vmm), .second] [(.long (vb + lp)), (.long (own_ref bl vb q2 tk lp))])) _
    rw [hbl]
    show Steps p.tables e below (T12.setTop (mkF m 207 #[.val (.int p1), .val (.long q2), .second, .val (.long q3), .second, .val (.long q4), .second, .val (.long q5), .second, .val (.int vt), .val (.long tk), .second, .val (.long lp), .second, .val (.long va), .second, .val (.long vb), .second, .val (.long vn), .second, .val (.ref b1), .val (.long q2), .second, .val (.long q2), .second, .val (.long vb), .second, .val (.long vmm), .second] [(.long bl), (.long (own_ref bl vb q2 tk lp))])) _
    refine XS.lload X12.here hx rfl (hb hby at_207) rfl ?_
    show Steps p.tables e below (T12.setTop (mkF m 209 #[.val (.int p1), .val (.long q2), .second, .val (.long q3), .second, .val (.long q4), .second, .val (.long q5), .second, .val (.int vt), .val (.long tk), .second, .val (.long lp), .second, .val (.long va), .second, .val (.long vb), .second, .val (.long vn), .second, .val (.ref b1), .val (.long q2), .second, .val (.long q2), .second, .val (.long vb), .second, .val (.long vmm), .second] [(.long vb), (.long bl), (.long (own_ref bl vb q2 tk lp))])) _
    refine XS.lload X12.here hx rfl (hb hby at_209) rfl ?_
    show Steps p.tables e below (T12.setTop (mkF m 211 #[.val (.int p1), .val (.long q2), .second, .val (.long q3), .second, .val (.long q4), .second, .val (.long q5), .second, .val (.int vt), .val (.long tk), .second, .val (.long lp), .second, .val (.long va), .second, .val (.long vb), .second, .val (.long vn), .second, .val (.ref b1), .val (.long q2), .second, .val (.long q2), .second, .val (.long vb), .second, .val (.long vmm), .second] [(.long q2), (.long vb), (.long bl), (.long (own_ref bl vb q2 tk lp))])) _
    refine XS.lload X12.here hx rfl (hb hby at_211) rfl ?_
    show Steps p.tables e below (T12.setTop (mkF m 213 #[.val (.int p1), .val (.long q2), .second, .val (.long q3), .second, .val (.long q4), .second, .val (.long q5), .second, .val (.int vt), .val (.long tk), .second, .val (.long lp), .second, .val (.long va), .second, .val (.long vb), .second, .val (.long vn), .second, .val (.ref b1), .val (.long q2), .second, .val (.long q2), .second, .val (.long vb), .second, .val (.long vmm), .second] [(.long tk), (.long q2), (.long vb), (.long bl), (.long (own_ref bl vb q2 tk lp))])) _
    refine XS.lload X12.here hx rfl (hb hby at_213) rfl ?_
    show Steps p.tables e below (T12.setTop (mkF m 215 #[.val (.int p1), .val (.long q2), .second, .val (.long q3), .second, .val (.long q4), .second, .val (.long q5), .second, .val (.int vt), .val (.long tk), .second, .val (.long lp), .second, .val (.long va), .second, .val (.long vb), .second, .val (.long vn), .second, .val (.ref b1), .val (.long q2), .second, .val (.long q2), .second, .val (.long vb), .second, .val (.long vmm), .second] [(.long lp), (.long tk), (.long q2), (.long vb), (.long bl), (.long (own_ref bl vb q2 tk lp))])) _
    refine st13 _ ?_
    show Steps p.tables e below (T13.setTop (mkF m 218 #[.val (.int p1), .val (.long q2), .second, .val (.long q3), .second, .val (.long q4), .second, .val (.long q5), .second, .val (.int vt), .val (.long tk), .second, .val (.long lp), .second, .val (.long va), .second, .val (.long vb), .second, .val (.long vn), .second, .val (.ref b1), .val (.long q2), .second, .val (.long q2), .second, .val (.long vb), .second, .val (.long vmm), .second] [(.long (own_ref bl vb q2 tk lp)), (.long (own_ref bl vb q2 tk lp))])) _
    refine XS.lcmp X13.here hx rfl (hb hby at_218) rfl ?_
    show Steps p.tables e below (T13.setTop (mkF m 219 #[.val (.int p1), .val (.long q2), .second, .val (.long q3), .second, .val (.long q4), .second, .val (.long q5), .second, .val (.int vt), .val (.long tk), .second, .val (.long lp), .second, .val (.long va), .second, .val (.long vb), .second, .val (.long vn), .second, .val (.ref b1), .val (.long q2), .second, .val (.long q2), .second, .val (.long vb), .second, .val (.long vmm), .second] [(.int (lcmpW (own_ref bl vb q2 tk lp) (own_ref bl vb q2 tk lp)))])) _
    rw [own_lcmp0]
    show Steps p.tables e below (T13.setTop (mkF m 219 #[.val (.int p1), .val (.long q2), .second, .val (.long q3), .second, .val (.long q4), .second, .val (.long q5), .second, .val (.int vt), .val (.long tk), .second, .val (.long lp), .second, .val (.long va), .second, .val (.long vb), .second, .val (.long vn), .second, .val (.ref b1), .val (.long q2), .second, .val (.long q2), .second, .val (.long vb), .second, .val (.long vmm), .second] [(.int 0)])) _
    refine XS.ifNo X13.here hx rfl (hb hby at_219) rfl ((if0 _ _).trans (teq (by decide : (0 : Int32) = (0 : Int32))).2) ?_
    show Steps p.tables e below (T13.setTop (mkF m 222 #[.val (.int p1), .val (.long q2), .second, .val (.long q3), .second, .val (.long q4), .second, .val (.long q5), .second, .val (.int vt), .val (.long tk), .second, .val (.long lp), .second, .val (.long va), .second, .val (.long vb), .second, .val (.long vn), .second, .val (.ref b1), .val (.long q2), .second, .val (.long q2), .second, .val (.long vb), .second, .val (.long vmm), .second] [])) _
    refine XS.aload X13.here hx rfl (hb hby at_222) rfl rfl ?_
    show Steps p.tables e below (T13.setTop (mkF m 224 #[.val (.int p1), .val (.long q2), .second, .val (.long q3), .second, .val (.long q4), .second, .val (.long q5), .second, .val (.int vt), .val (.long tk), .second, .val (.long lp), .second, .val (.long va), .second, .val (.long vb), .second, .val (.long vn), .second, .val (.ref b1), .val (.long q2), .second, .val (.long q2), .second, .val (.long vb), .second, .val (.long vmm), .second] [(.ref b1)])) _
    refine XS.lload X13.here hx rfl (hb hby at_224) rfl ?_
    show Steps p.tables e below (T13.setTop (mkF m 226 #[.val (.int p1), .val (.long q2), .second, .val (.long q3), .second, .val (.long q4), .second, .val (.long q5), .second, .val (.int vt), .val (.long tk), .second, .val (.long lp), .second, .val (.long va), .second, .val (.long vb), .second, .val (.long vn), .second, .val (.ref b1), .val (.long q2), .second, .val (.long q2), .second, .val (.long vb), .second, .val (.long vmm), .second] [(.long vb), (.ref b1)])) _
    refine XS.lload X13.here hx rfl (hb hby at_226) rfl ?_
    show Steps p.tables e below (T13.setTop (mkF m 228 #[.val (.int p1), .val (.long q2), .second, .val (.long q3), .second, .val (.long q4), .second, .val (.long q5), .second, .val (.int vt), .val (.long tk), .second, .val (.long lp), .second, .val (.long va), .second, .val (.long vb), .second, .val (.long vn), .second, .val (.ref b1), .val (.long q2), .second, .val (.long q2), .second, .val (.long vb), .second, .val (.long vmm), .second] [(.long lp), (.long vb), (.ref b1)])) _
    refine XS.ladd X13.here hx rfl (hb hby at_228) rfl ?_
    show Steps p.tables e below (T13.setTop (mkF m 229 #[.val (.int p1), .val (.long q2), .second, .val (.long q3), .second, .val (.long q4), .second, .val (.long q5), .second, .val (.int vt), .val (.long tk), .second, .val (.long lp), .second, .val (.long va), .second, .val (.long vb), .second, .val (.long vn), .second, .val (.ref b1), .val (.long q2), .second, .val (.long q2), .second, .val (.long vb), .second, .val (.long vmm), .second] [(.long (vb + lp)), (.ref b1)])) _
    rw [hbl]
    show Steps p.tables e below (T13.setTop (mkF m 229 #[.val (.int p1), .val (.long q2), .second, .val (.long q3), .second, .val (.long q4), .second, .val (.long q5), .second, .val (.int vt), .val (.long tk), .second, .val (.long lp), .second, .val (.long va), .second, .val (.long vb), .second, .val (.long vn), .second, .val (.ref b1), .val (.long q2), .second, .val (.long q2), .second, .val (.long vb), .second, .val (.long vmm), .second] [(.long bl), (.ref b1)])) _
    refine XS.lconst X13.here hx rfl (hb hby at_229) ?_
    show Steps p.tables e below (T13.setTop (mkF m 230 #[.val (.int p1), .val (.long q2), .second, .val (.long q3), .second, .val (.long q4), .second, .val (.long q5), .second, .val (.int vt), .val (.long tk), .second, .val (.long lp), .second, .val (.long va), .second, .val (.long vb), .second, .val (.long vn), .second, .val (.ref b1), .val (.long q2), .second, .val (.long q2), .second, .val (.long vb), .second, .val (.long vmm), .second] [(.long 1), (.long bl), (.ref b1)])) _
    refine XS.ladd X13.here hx rfl (hb hby at_230) rfl ?_
    show Steps p.tables e below (T13.setTop (mkF m 231 #[.val (.int p1), .val (.long q2), .second, .val (.long q3), .second, .val (.long q4), .second, .val (.long q5), .second, .val (.int vt), .val (.long tk), .second, .val (.long lp), .second, .val (.long va), .second, .val (.long vb), .second, .val (.long vn), .second, .val (.ref b1), .val (.long q2), .second, .val (.long q2), .second, .val (.long vb), .second, .val (.long vmm), .second] [(.long (bl + (1 : Int64))), (.ref b1)])) _
    rw [hbl1]
    show Steps p.tables e below (T13.setTop (mkF m 231 #[.val (.int p1), .val (.long q2), .second, .val (.long q3), .second, .val (.long q4), .second, .val (.long q5), .second, .val (.int vt), .val (.long tk), .second, .val (.long lp), .second, .val (.long va), .second, .val (.long vb), .second, .val (.long vn), .second, .val (.ref b1), .val (.long q2), .second, .val (.long q2), .second, .val (.long vb), .second, .val (.long vmm), .second] [(.long bl1), (.ref b1)])) _
    refine st14.trans ?_
    show Steps p.tables e below (T14.setTop (mkF m 234 #[.val (.int p1), .val (.long q2), .second, .val (.long q3), .second, .val (.long q4), .second, .val (.long q5), .second, .val (.int vt), .val (.long tk), .second, .val (.long lp), .second, .val (.long va), .second, .val (.long vb), .second, .val (.long vn), .second, .val (.ref b1), .val (.long q2), .second, .val (.long q2), .second, .val (.long vb), .second, .val (.long vmm), .second] [(.long (own_ref bl1 vb q2 tk lp))])) _
    refine XS.lload X14.here hx rfl (hb hby at_234) rfl ?_
    show Steps p.tables e below (T14.setTop (mkF m 236 #[.val (.int p1), .val (.long q2), .second, .val (.long q3), .second, .val (.long q4), .second, .val (.long q5), .second, .val (.int vt), .val (.long tk), .second, .val (.long lp), .second, .val (.long va), .second, .val (.long vb), .second, .val (.long vn), .second, .val (.ref b1), .val (.long q2), .second, .val (.long q2), .second, .val (.long vb), .second, .val (.long vmm), .second] [(.long vb), (.long (own_ref bl1 vb q2 tk lp))])) _
    refine XS.lload X14.here hx rfl (hb hby at_236) rfl ?_
    show Steps p.tables e below (T14.setTop (mkF m 238 #[.val (.int p1), .val (.long q2), .second, .val (.long q3), .second, .val (.long q4), .second, .val (.long q5), .second, .val (.int vt), .val (.long tk), .second, .val (.long lp), .second, .val (.long va), .second, .val (.long vb), .second, .val (.long vn), .second, .val (.ref b1), .val (.long q2), .second, .val (.long q2), .second, .val (.long vb), .second, .val (.long vmm), .second] [(.long lp), (.long vb), (.long (own_ref bl1 vb q2 tk lp))])) _
    refine XS.ladd X14.here hx rfl (hb hby at_238) rfl ?_
    show Steps p.tables e below (T14.setTop (mkF m 239 #[.val (.int p1), .val (.long q2), .second, .val (.long q3), .second, .val (.long q4), .second, .val (.long q5), .second, .val (.int vt), .val (.long tk), .second, .val (.long lp), .second, .val (.long va), .second, .val (.long vb), .second, .val (.long vn), .second, .val (.ref b1), .val (.long q2), .second, .val (.long q2), .second, .val (.long vb), .second, .val (.long vmm), .second] [(.long (vb + lp)), (.long (own_ref bl1 vb q2 tk lp))])) _
    rw [hbl]
    show Steps p.tables e below (T14.setTop (mkF m 239 #[.val (.int p1), .val (.long q2), .second, .val (.long q3), .second, .val (.long q4), .second, .val (.long q5), .second, .val (.int vt), .val (.long tk), .second, .val (.long lp), .second, .val (.long va), .second, .val (.long vb), .second, .val (.long vn), .second, .val (.ref b1), .val (.long q2), .second, .val (.long q2), .second, .val (.long vb), .second, .val (.long vmm), .second] [(.long bl), (.long (own_ref bl1 vb q2 tk lp))])) _
    refine XS.lconst X14.here hx rfl (hb hby at_239) ?_
    show Steps p.tables e below (T14.setTop (mkF m 240 #[.val (.int p1), .val (.long q2), .second, .val (.long q3), .second, .val (.long q4), .second, .val (.long q5), .second, .val (.int vt), .val (.long tk), .second, .val (.long lp), .second, .val (.long va), .second, .val (.long vb), .second, .val (.long vn), .second, .val (.ref b1), .val (.long q2), .second, .val (.long q2), .second, .val (.long vb), .second, .val (.long vmm), .second] [(.long 1), (.long bl), (.long (own_ref bl1 vb q2 tk lp))])) _
    refine XS.ladd X14.here hx rfl (hb hby at_240) rfl ?_
    show Steps p.tables e below (T14.setTop (mkF m 241 #[.val (.int p1), .val (.long q2), .second, .val (.long q3), .second, .val (.long q4), .second, .val (.long q5), .second, .val (.int vt), .val (.long tk), .second, .val (.long lp), .second, .val (.long va), .second, .val (.long vb), .second, .val (.long vn), .second, .val (.ref b1), .val (.long q2), .second, .val (.long q2), .second, .val (.long vb), .second, .val (.long vmm), .second] [(.long (bl + (1 : Int64))), (.long (own_ref bl1 vb q2 tk lp))])) _
    rw [hbl1]
    show Steps p.tables e below (T14.setTop (mkF m 241 #[.val (.int p1), .val (.long q2), .second, .val (.long q3), .second, .val (.long q4), .second, .val (.long q5), .second, .val (.int vt), .val (.long tk), .second, .val (.long lp), .second, .val (.long va), .second, .val (.long vb), .second, .val (.long vn), .second, .val (.ref b1), .val (.long q2), .second, .val (.long q2), .second, .val (.long vb), .second, .val (.long vmm), .second] [(.long bl1), (.long (own_ref bl1 vb q2 tk lp))])) _
    refine XS.lload X14.here hx rfl (hb hby at_241) rfl ?_
    show Steps p.tables e below (T14.setTop (mkF m 243 #[.val (.int p1), .val (.long q2), .second, .val (.long q3), .second, .val (.long q4), .second, .val (.long q5), .second, .val (.int vt), .val (.long tk), .second, .val (.long lp), .second, .val (.long va), .second, .val (.long vb), .second, .val (.long vn), .second, .val (.ref b1), .val (.long q2), .second, .val (.long q2), .second, .val (.long vb), .second, .val (.long vmm), .second] [(.long vb), (.long bl1), (.long (own_ref bl1 vb q2 tk lp))])) _
    refine XS.lload X14.here hx rfl (hb hby at_243) rfl ?_
    show Steps p.tables e below (T14.setTop (mkF m 245 #[.val (.int p1), .val (.long q2), .second, .val (.long q3), .second, .val (.long q4), .second, .val (.long q5), .second, .val (.int vt), .val (.long tk), .second, .val (.long lp), .second, .val (.long va), .second, .val (.long vb), .second, .val (.long vn), .second, .val (.ref b1), .val (.long q2), .second, .val (.long q2), .second, .val (.long vb), .second, .val (.long vmm), .second] [(.long q2), (.long vb), (.long bl1), (.long (own_ref bl1 vb q2 tk lp))])) _
    refine XS.lload X14.here hx rfl (hb hby at_245) rfl ?_
    show Steps p.tables e below (T14.setTop (mkF m 247 #[.val (.int p1), .val (.long q2), .second, .val (.long q3), .second, .val (.long q4), .second, .val (.long q5), .second, .val (.int vt), .val (.long tk), .second, .val (.long lp), .second, .val (.long va), .second, .val (.long vb), .second, .val (.long vn), .second, .val (.ref b1), .val (.long q2), .second, .val (.long q2), .second, .val (.long vb), .second, .val (.long vmm), .second] [(.long tk), (.long q2), (.long vb), (.long bl1), (.long (own_ref bl1 vb q2 tk lp))])) _
    refine XS.lload X14.here hx rfl (hb hby at_247) rfl ?_
    show Steps p.tables e below (T14.setTop (mkF m 249 #[.val (.int p1), .val (.long q2), .second, .val (.long q3), .second, .val (.long q4), .second, .val (.long q5), .second, .val (.int vt), .val (.long tk), .second, .val (.long lp), .second, .val (.long va), .second, .val (.long vb), .second, .val (.long vn), .second, .val (.ref b1), .val (.long q2), .second, .val (.long q2), .second, .val (.long vb), .second, .val (.long vmm), .second] [(.long lp), (.long tk), (.long q2), (.long vb), (.long bl1), (.long (own_ref bl1 vb q2 tk lp))])) _
    refine st15 _ ?_
    show Steps p.tables e below (T15.setTop (mkF m 252 #[.val (.int p1), .val (.long q2), .second, .val (.long q3), .second, .val (.long q4), .second, .val (.long q5), .second, .val (.int vt), .val (.long tk), .second, .val (.long lp), .second, .val (.long va), .second, .val (.long vb), .second, .val (.long vn), .second, .val (.ref b1), .val (.long q2), .second, .val (.long q2), .second, .val (.long vb), .second, .val (.long vmm), .second] [(.long (own_ref bl1 vb q2 tk lp)), (.long (own_ref bl1 vb q2 tk lp))])) _
    refine XS.lcmp X15.here hx rfl (hb hby at_252) rfl ?_
    show Steps p.tables e below (T15.setTop (mkF m 253 #[.val (.int p1), .val (.long q2), .second, .val (.long q3), .second, .val (.long q4), .second, .val (.long q5), .second, .val (.int vt), .val (.long tk), .second, .val (.long lp), .second, .val (.long va), .second, .val (.long vb), .second, .val (.long vn), .second, .val (.ref b1), .val (.long q2), .second, .val (.long q2), .second, .val (.long vb), .second, .val (.long vmm), .second] [(.int (lcmpW (own_ref bl1 vb q2 tk lp) (own_ref bl1 vb q2 tk lp)))])) _
    rw [own_lcmp0]
    show Steps p.tables e below (T15.setTop (mkF m 253 #[.val (.int p1), .val (.long q2), .second, .val (.long q3), .second, .val (.long q4), .second, .val (.long q5), .second, .val (.int vt), .val (.long tk), .second, .val (.long lp), .second, .val (.long va), .second, .val (.long vb), .second, .val (.long vn), .second, .val (.ref b1), .val (.long q2), .second, .val (.long q2), .second, .val (.long vb), .second, .val (.long vmm), .second] [(.int 0)])) _
    refine XS.ifNo X15.here hx rfl (hb hby at_253) rfl ((if0 _ _).trans (teq (by decide : (0 : Int32) = (0 : Int32))).2) ?_
    show Steps p.tables e below (T15.setTop (mkF m 256 #[.val (.int p1), .val (.long q2), .second, .val (.long q3), .second, .val (.long q4), .second, .val (.long q5), .second, .val (.int vt), .val (.long tk), .second, .val (.long lp), .second, .val (.long va), .second, .val (.long vb), .second, .val (.long vn), .second, .val (.ref b1), .val (.long q2), .second, .val (.long q2), .second, .val (.long vb), .second, .val (.long vmm), .second] [])) _
    refine XS.aload X15.here hx rfl (hb hby at_256) rfl rfl ?_
    show Steps p.tables e below (T15.setTop (mkF m 258 #[.val (.int p1), .val (.long q2), .second, .val (.long q3), .second, .val (.long q4), .second, .val (.long q5), .second, .val (.int vt), .val (.long tk), .second, .val (.long lp), .second, .val (.long va), .second, .val (.long vb), .second, .val (.long vn), .second, .val (.ref b1), .val (.long q2), .second, .val (.long q2), .second, .val (.long vb), .second, .val (.long vmm), .second] [(.ref b1)])) _
    refine XS.lload X15.here hx rfl (hb hby at_258) rfl ?_
    show Steps p.tables e below (T15.setTop (mkF m 260 #[.val (.int p1), .val (.long q2), .second, .val (.long q3), .second, .val (.long q4), .second, .val (.long q5), .second, .val (.int vt), .val (.long tk), .second, .val (.long lp), .second, .val (.long va), .second, .val (.long vb), .second, .val (.long vn), .second, .val (.ref b1), .val (.long q2), .second, .val (.long q2), .second, .val (.long vb), .second, .val (.long vmm), .second] [(.long vmm), (.ref b1)])) _
    refine st16.trans ?_
    show Steps p.tables e below (T16.setTop (mkF m 263 #[.val (.int p1), .val (.long q2), .second, .val (.long q3), .second, .val (.long q4), .second, .val (.long q5), .second, .val (.int vt), .val (.long tk), .second, .val (.long lp), .second, .val (.long va), .second, .val (.long vb), .second, .val (.long vn), .second, .val (.ref b1), .val (.long q2), .second, .val (.long q2), .second, .val (.long vb), .second, .val (.long vmm), .second] [(.long (own_ref vmm vb q2 tk lp))])) _
    refine XS.lload X16.here hx rfl (hb hby at_263) rfl ?_
    show Steps p.tables e below (T16.setTop (mkF m 265 #[.val (.int p1), .val (.long q2), .second, .val (.long q3), .second, .val (.long q4), .second, .val (.long q5), .second, .val (.int vt), .val (.long tk), .second, .val (.long lp), .second, .val (.long va), .second, .val (.long vb), .second, .val (.long vn), .second, .val (.ref b1), .val (.long q2), .second, .val (.long q2), .second, .val (.long vb), .second, .val (.long vmm), .second] [(.long vmm), (.long (own_ref vmm vb q2 tk lp))])) _
    refine XS.lload X16.here hx rfl (hb hby at_265) rfl ?_
    show Steps p.tables e below (T16.setTop (mkF m 267 #[.val (.int p1), .val (.long q2), .second, .val (.long q3), .second, .val (.long q4), .second, .val (.long q5), .second, .val (.int vt), .val (.long tk), .second, .val (.long lp), .second, .val (.long va), .second, .val (.long vb), .second, .val (.long vn), .second, .val (.ref b1), .val (.long q2), .second, .val (.long q2), .second, .val (.long vb), .second, .val (.long vmm), .second] [(.long vb), (.long vmm), (.long (own_ref vmm vb q2 tk lp))])) _
    refine XS.lload X16.here hx rfl (hb hby at_267) rfl ?_
    show Steps p.tables e below (T16.setTop (mkF m 269 #[.val (.int p1), .val (.long q2), .second, .val (.long q3), .second, .val (.long q4), .second, .val (.long q5), .second, .val (.int vt), .val (.long tk), .second, .val (.long lp), .second, .val (.long va), .second, .val (.long vb), .second, .val (.long vn), .second, .val (.ref b1), .val (.long q2), .second, .val (.long q2), .second, .val (.long vb), .second, .val (.long vmm), .second] [(.long q2), (.long vb), (.long vmm), (.long (own_ref vmm vb q2 tk lp))])) _
    refine XS.lload X16.here hx rfl (hb hby at_269) rfl ?_
    show Steps p.tables e below (T16.setTop (mkF m 271 #[.val (.int p1), .val (.long q2), .second, .val (.long q3), .second, .val (.long q4), .second, .val (.long q5), .second, .val (.int vt), .val (.long tk), .second, .val (.long lp), .second, .val (.long va), .second, .val (.long vb), .second, .val (.long vn), .second, .val (.ref b1), .val (.long q2), .second, .val (.long q2), .second, .val (.long vb), .second, .val (.long vmm), .second] [(.long tk), (.long q2), (.long vb), (.long vmm), (.long (own_ref vmm vb q2 tk lp))])) _
    refine XS.lload X16.here hx rfl (hb hby at_271) rfl ?_
    show Steps p.tables e below (T16.setTop (mkF m 273 #[.val (.int p1), .val (.long q2), .second, .val (.long q3), .second, .val (.long q4), .second, .val (.long q5), .second, .val (.int vt), .val (.long tk), .second, .val (.long lp), .second, .val (.long va), .second, .val (.long vb), .second, .val (.long vn), .second, .val (.ref b1), .val (.long q2), .second, .val (.long q2), .second, .val (.long vb), .second, .val (.long vmm), .second] [(.long lp), (.long tk), (.long q2), (.long vb), (.long vmm), (.long (own_ref vmm vb q2 tk lp))])) _
    refine st17 _ ?_
    show Steps p.tables e below (T17.setTop (mkF m 276 #[.val (.int p1), .val (.long q2), .second, .val (.long q3), .second, .val (.long q4), .second, .val (.long q5), .second, .val (.int vt), .val (.long tk), .second, .val (.long lp), .second, .val (.long va), .second, .val (.long vb), .second, .val (.long vn), .second, .val (.ref b1), .val (.long q2), .second, .val (.long q2), .second, .val (.long vb), .second, .val (.long vmm), .second] [(.long (own_ref vmm vb q2 tk lp)), (.long (own_ref vmm vb q2 tk lp))])) _
    refine XS.lcmp X17.here hx rfl (hb hby at_276) rfl ?_
    show Steps p.tables e below (T17.setTop (mkF m 277 #[.val (.int p1), .val (.long q2), .second, .val (.long q3), .second, .val (.long q4), .second, .val (.long q5), .second, .val (.int vt), .val (.long tk), .second, .val (.long lp), .second, .val (.long va), .second, .val (.long vb), .second, .val (.long vn), .second, .val (.ref b1), .val (.long q2), .second, .val (.long q2), .second, .val (.long vb), .second, .val (.long vmm), .second] [(.int (lcmpW (own_ref vmm vb q2 tk lp) (own_ref vmm vb q2 tk lp)))])) _
    rw [own_lcmp0]
    show Steps p.tables e below (T17.setTop (mkF m 277 #[.val (.int p1), .val (.long q2), .second, .val (.long q3), .second, .val (.long q4), .second, .val (.long q5), .second, .val (.int vt), .val (.long tk), .second, .val (.long lp), .second, .val (.long va), .second, .val (.long vb), .second, .val (.long vn), .second, .val (.ref b1), .val (.long q2), .second, .val (.long q2), .second, .val (.long vb), .second, .val (.long vmm), .second] [(.int 0)])) _
    refine XS.ifNo X17.here hx rfl (hb hby at_277) rfl ((if0 _ _).trans (teq (by decide : (0 : Int32) = (0 : Int32))).2) ?_
    show Steps p.tables e below (T17.setTop (mkF m 280 #[.val (.int p1), .val (.long q2), .second, .val (.long q3), .second, .val (.long q4), .second, .val (.long q5), .second, .val (.int vt), .val (.long tk), .second, .val (.long lp), .second, .val (.long va), .second, .val (.long vb), .second, .val (.long vn), .second, .val (.ref b1), .val (.long q2), .second, .val (.long q2), .second, .val (.long vb), .second, .val (.long vmm), .second] [])) _
    refine XS.iconst X17.here hx rfl (hb hby at_280) ?_
    show Steps p.tables e below (T17.setTop (mkF m 281 #[.val (.int p1), .val (.long q2), .second, .val (.long q3), .second, .val (.long q4), .second, .val (.long q5), .second, .val (.int vt), .val (.long tk), .second, .val (.long lp), .second, .val (.long va), .second, .val (.long vb), .second, .val (.long vn), .second, .val (.ref b1), .val (.long q2), .second, .val (.long q2), .second, .val (.long vb), .second, .val (.long vmm), .second] [(.int 1)])) _
    refine XS.goto X17.here hx rfl (pc0 := 281) (pc' := 285) rfl (hb hby at_281) (by decide) (by decide) ?_
    show Steps p.tables e below (T17.setTop (mkF m 285 #[.val (.int p1), .val (.long q2), .second, .val (.long q3), .second, .val (.long q4), .second, .val (.long q5), .second, .val (.int vt), .val (.long tk), .second, .val (.long lp), .second, .val (.long va), .second, .val (.long vb), .second, .val (.long vn), .second, .val (.ref b1), .val (.long q2), .second, .val (.long q2), .second, .val (.long vb), .second, .val (.long vmm), .second] [(.int 1)])) _
    exact retN X17 hx (t := .boolean) Bd.returns (by simp) (hb hby at_285) hr
  · show Q0_klele Z p1 q2 q3 q4 q5 vt tk lp va vb vn w_MILLISECONDS w_DEFAULTCAPACITY_EMPTY_ELEMENTDATA vm1 vmm bm bl bl1 h0 n0 _ T17.heap _
    rw [e17]
    exact ⟨rfl, N17, trivial⟩
set_option maxRecDepth 65536 in
set_option maxHeartbeats 40000000 in
theorem comes_1 {Post : Tables → Env → Array Value → State → Outcome → State → Prop} (hpost : ∀ tb e args s v u, (limb_1_1.after args s (.returned v) u = true ∧ limb_1_2.after args s (.returned v) u = true ∧ True) → FrameEnd s (.returned v) u (Jvm.fieldLocs frame_1_writes args s ++ Jvm.arrayLocs frame_1_arrays args s ++ Jvm.staticLocs frame_1_statics s) 24 192 → Post tb e args s (.returned v) u) :
    ArmFor flags0 classFile x code maxLocals ret World_1 tables_1 room_1 Calls_1 rest_1 Pre_1 Post := by
  intro l hfl _ _ p e ha hc hk s m args below hf hA hF happ hP
  obtain ⟨hcalls, hrest, hpre⟩ := hP
  obtain ⟨-, -, -, hnamed, -, -, -, hat⟩ := (Spec.applies_iff hf).mp happ
  obtain ⟨hg, hn⟩ := and_e (Cond.before_iff.mp (show (Jvm.Cond.and given_1 narrow_1).before args s = true from hpre))
  obtain ⟨g1a, g1b⟩ := and_e hg
  obtain ⟨g2a, g2b⟩ := and_e g1b
  obtain ⟨g3a, g3b⟩ := and_e g2b
  obtain ⟨g4a, g4b⟩ := and_e g3b
  obtain ⟨g5a, g5b⟩ := and_e g4b
  obtain ⟨w0, w1, w2, w3, w4, rfl⟩ : ∃ w0 w1 w2 w3 w4 : Value, args = #[w0, w1, w2, w3, w4] := by
    have hs : args.size = 5 := by simpa [Cond.value, given_1] using g1a
    obtain ⟨L⟩ := args
    match L, hs with
    | [w0, w1, w2, w3, w4], _ => exact ⟨w0, w1, w2, w3, w4, rfl⟩
  have hw := fun d (hd : d ∈ tables_1) => atoms_spec (ws := Jvm.Cond.code x code maxLocals ret :: tables_1) hat d (List.mem_cons_of_mem _ hd)
  have hfit : Fit s := fun {y c} hc i hi => by
    obtain ⟨ha, rfl⟩ := Array.getElem?_eq_some_iff.mp hc
    have q := List.all_eq_true.mp ((Array.all_eq_true_iff_forall_mem.mp hF) _ (Array.getElem_mem ha)) i (List.mem_range.mpr hi)
    simpa [Array.getElem?_eq_getElem hi] using q
  obtain ⟨i0, ei0⟩ := is_v g2a
  obtain rfl : w0 = (.int i0) := Option.some.inj ei0
  obtain ⟨i1, ei1⟩ := isL_v g3a
  obtain rfl : w1 = (.long i1) := Option.some.inj ei1
  obtain ⟨i2, ei2⟩ := isL_v g4a
  obtain rfl : w2 = (.long i2) := Option.some.inj ei2
  obtain ⟨i3, ei3⟩ := isL_v g5a
  obtain rfl : w3 = (.long i3) := Option.some.inj ei3
  obtain ⟨i4, ei4⟩ := isL_v g5b
  obtain rfl : w4 = (.long i4) := Option.some.inj ei4
  obtain ⟨hsets, hown0⟩ := atoms_of _ (rest_1_c_eq ▸ (show rest_1_c.before _ s = true from hrest))
  obtain ⟨w_MILLISECONDS, ev1⟩ := exa_v (Cond.before_iff.mp (hsets _ (List.mem_of_getElem? (i := 2) rfl)))
  have E_w_MILLISECONDS : Exa s s.heap w_MILLISECONDS "java/util/concurrent/TimeUnit" := Exa.start ev1 (Cond.before_iff.mp (hsets _ (List.mem_of_getElem? (i := 2) rfl)))
  have S_MILLISECONDS : Sta s s.heap "java/util/concurrent/TimeUnit" "MILLISECONDS" "Ljava/util/concurrent/TimeUnit;" (.ref w_MILLISECONDS) := Sta.start ev1 (Or.inl (hsets _ (List.mem_of_getElem? (i := 1) rfl)))
  have F_scale_w_MILLISECONDS : Fld s s.heap w_MILLISECONDS "java/util/concurrent/TimeUnit" "scale" "J" (.long 1000000) := own_fldL ev1 (Cond.before_iff.mp (hsets _ (List.mem_of_getElem? (i := 5) rfl)))
  have F_maxNanos_w_MILLISECONDS : Fld s s.heap w_MILLISECONDS "java/util/concurrent/TimeUnit" "maxNanos" "J" (.long 9223372036854) := own_fldL ev1 (Cond.before_iff.mp (hsets _ (List.mem_of_getElem? (i := 6) rfl)))
  obtain ⟨w_DEFAULTCAPACITY_EMPTY_ELEMENTDATA, ev2⟩ := exa_v (Cond.before_iff.mp (hsets _ (List.mem_of_getElem? (i := 20) rfl)))
  have S_DEFAULTCAPACITY_EMPTY_ELEMENTDATA : Sta s s.heap "java/util/ArrayList" "DEFAULTCAPACITY_EMPTY_ELEMENTDATA" "[Ljava/lang/Object;" (.ref w_DEFAULTCAPACITY_EMPTY_ELEMENTDATA) := Sta.start ev2 (Or.inr ⟨(hw _ (List.mem_of_getElem? (i := 79) rfl)), (hsets _ (List.mem_of_getElem? (i := 15) rfl))⟩)
  have tm : (i0 &&& (2147483647 : Int32)).toInt = i0.toInt % (2 ^ 31 : Nat) := c_mask i0 2147483647 31 (by decide) (by decide)
  obtain ⟨vt, ht⟩ : ∃ z, (i0 &&& (2147483647 : Int32)) = z := ⟨_, rfl⟩
  obtain ⟨tk, htk⟩ : ∃ z, ((vt.toInt64) * (1000000 : Int64)) = z := ⟨_, rfl⟩
  obtain ⟨lp, hlp⟩ : ∃ z, (tk + (tk / (4 : Int64))) = z := ⟨_, rfl⟩
  obtain ⟨va, hva⟩ : ∃ z, (i1 + i2) = z := ⟨_, rfl⟩
  obtain ⟨vb, hvb⟩ : ∃ z, (va + i3) = z := ⟨_, rfl⟩
  obtain ⟨vn, hvn⟩ : ∃ z, (vb + i4) = z := ⟨_, rfl⟩
  obtain ⟨ca, hca⟩ : ∃ z, (va + tk) = z := ⟨_, rfl⟩
  obtain ⟨cb, hcb⟩ : ∃ z, (vb + tk) = z := ⟨_, rfl⟩
  obtain ⟨bm, hbm⟩ : ∃ z, (vb - (1 : Int64)) = z := ⟨_, rfl⟩
  obtain ⟨bl, hbl⟩ : ∃ z, (vb + lp) = z := ⟨_, rfl⟩
  obtain ⟨bl1, hbl1⟩ : ∃ z, (bl + (1 : Int64)) = z := ⟨_, rfl⟩
  rw [ht] at tm
  have t64 : vt.toInt64.toInt = vt.toInt := c_i2l vt
  have k1 : (9223372036854 : Int64).toInt = 9223372036854 := by decide
  have k2 : (-9223372036854 : Int64).toInt = -9223372036854 := by decide
  have hc22 : ¬ ((0 : Int32) < (lcmpW (vt.toInt64) (9223372036854 : Int64))) := fun z => by
    have z2 := (lw_gt _ _).mp z
    rw [Int64.lt_iff_toInt_lt, k1, t64] at z2
    omega
  have hc34 : ¬ ((lcmpW (vt.toInt64) (-9223372036854 : Int64)) < (0 : Int32)) := fun z => by
    have z2 := (lw_lt _ _).mp z
    rw [Int64.lt_iff_toInt_lt, k2, t64] at z2
    omega
  by_cases hA : (0 : Int32) < (lcmpW (va - i1) lp)
  · by_cases hB : (0 : Int32) < (lcmpW (vb - va) lp)
    · obtain ⟨n, o, h1, h2, h3, _, L, rfl, ⟨rfl, N, -⟩, hq⟩ := rm0_kgtgt l s _ hw tables_1 i0 i1 i2 i3 i4 vt tk lp va vb vn w_MILLISECONDS w_DEFAULTCAPACITY_EMPTY_ELEMENTDATA ca cb (cb - tk) ((cb - tk) - (1 : Int64)) bm bl bl1 s.heap s.heap.size (Nat.le_refl _) ht htk hlp hva hvb hvn S_MILLISECONDS F_scale_w_MILLISECONDS F_maxNanos_w_MILLISECONDS hc22 hc34 E_w_MILLISECONDS S_DEFAULTCAPACITY_EMPTY_ELEMENTDATA hA hca hB hcb hA hB rfl rfl hbm hbl hbl1 p e ha hc hk s m _ below hf ((Spec.applies_iff_loose hf).mp happ).1 ⟨rfl, State.Warmed39.refl s, rfl⟩ trivial
      exact ⟨n, _, h1, h2, h3, hpost _ _ _ _ _ _ ⟨Cond.after_iff.mpr rfl, Cond.after_iff.mpr (eq_i res_at (Term.int_eval (1)) rfl), trivial⟩ ⟨hq.1, hq.2.1, (hq.2.2.sift fun y hy => Or.inr (N y hy)).mono (by decide) (by decide)⟩⟩
    · obtain ⟨n, o, h1, h2, h3, _, L, rfl, ⟨rfl, N, -⟩, hq⟩ := rm0_kgtle l s _ hw tables_1 i0 i1 i2 i3 i4 vt tk lp va vb vn w_MILLISECONDS w_DEFAULTCAPACITY_EMPTY_ELEMENTDATA ca (ca - tk) ((ca - tk) - (1 : Int64)) bm bl bl1 s.heap s.heap.size (Nat.le_refl _) ht htk hlp hva hvb hvn S_MILLISECONDS F_scale_w_MILLISECONDS F_maxNanos_w_MILLISECONDS hc22 hc34 E_w_MILLISECONDS S_DEFAULTCAPACITY_EMPTY_ELEMENTDATA hA hca hB hA hB rfl rfl hbm hbl hbl1 p e ha hc hk s m _ below hf ((Spec.applies_iff_loose hf).mp happ).1 ⟨rfl, State.Warmed39.refl s, rfl⟩ trivial
      exact ⟨n, _, h1, h2, h3, hpost _ _ _ _ _ _ ⟨Cond.after_iff.mpr rfl, Cond.after_iff.mpr (eq_i res_at (Term.int_eval (1)) rfl), trivial⟩ ⟨hq.1, hq.2.1, (hq.2.2.sift fun y hy => Or.inr (N y hy)).mono (by decide) (by decide)⟩⟩
  · by_cases hB : (0 : Int32) < (lcmpW (vb - va) lp)
    · obtain ⟨n, o, h1, h2, h3, _, L, rfl, ⟨rfl, N, -⟩, hq⟩ := rm0_klegt l s _ hw tables_1 i0 i1 i2 i3 i4 vt tk lp va vb vn w_MILLISECONDS w_DEFAULTCAPACITY_EMPTY_ELEMENTDATA cb (cb - tk) ((cb - tk) - (1 : Int64)) bm bl bl1 s.heap s.heap.size (Nat.le_refl _) ht htk hlp hva hvb hvn S_MILLISECONDS F_scale_w_MILLISECONDS F_maxNanos_w_MILLISECONDS hc22 hc34 E_w_MILLISECONDS S_DEFAULTCAPACITY_EMPTY_ELEMENTDATA hA hB hcb hA hB rfl rfl hbm hbl hbl1 p e ha hc hk s m _ below hf ((Spec.applies_iff_loose hf).mp happ).1 ⟨rfl, State.Warmed39.refl s, rfl⟩ trivial
      exact ⟨n, _, h1, h2, h3, hpost _ _ _ _ _ _ ⟨Cond.after_iff.mpr rfl, Cond.after_iff.mpr (eq_i res_at (Term.int_eval (1)) rfl), trivial⟩ ⟨hq.1, hq.2.1, (hq.2.2.sift fun y hy => Or.inr (N y hy)).mono (by decide) (by decide)⟩⟩
    · obtain ⟨n, o, h1, h2, h3, _, L, rfl, ⟨rfl, N, -⟩, hq⟩ := rm0_klele l s _ hw tables_1 i0 i1 i2 i3 i4 vt tk lp va vb vn w_MILLISECONDS w_DEFAULTCAPACITY_EMPTY_ELEMENTDATA (i1 - tk) ((i1 - tk) - (1 : Int64)) bm bl bl1 s.heap s.heap.size (Nat.le_refl _) ht htk hlp hva hvb hvn S_MILLISECONDS F_scale_w_MILLISECONDS F_maxNanos_w_MILLISECONDS hc22 hc34 E_w_MILLISECONDS S_DEFAULTCAPACITY_EMPTY_ELEMENTDATA hA hB hA hB rfl rfl hbm hbl hbl1 p e ha hc hk s m _ below hf ((Spec.applies_iff_loose hf).mp happ).1 ⟨rfl, State.Warmed39.refl s, rfl⟩ trivial
      exact ⟨n, _, h1, h2, h3, hpost _ _ _ _ _ _ ⟨Cond.after_iff.mpr rfl, Cond.after_iff.mpr (eq_i res_at (Term.int_eval (1)) rfl), trivial⟩ ⟨hq.1, hq.2.1, (hq.2.2.sift fun y hy => Or.inr (N y hy)).mono (by decide) (by decide)⟩⟩
theorem main_1_1 : Claimed_1_1 := comes_1 fun _ _ _ _ _ _ h hF => ⟨h.1, hF⟩
theorem main_1_2 : Claimed_1_2 := comes_1 fun _ _ _ _ _ _ h hF => ⟨h.2.1, hF⟩
end Jvm.Pilot.@@N@@
namespace Jvm.Pilot.@@N@@
open Jvm Jvm.ClassFile Sem Op Lib Jvm.Free Jvm.Stand Jvm.Pilot.@@N@@.Jvm.D
/-! MADE BY PROGRAM (witnessworld.py) out of the Statement's table words and the real class files: 34 classes; the members and pool entries that the words name. The judged class is class 1, her method 1. -/
namespace start1
open Jvm.ClassFile
def u (s : String) : CpInfo := .utf8 (stringToUtf16 s)
/-- a pool by its gaps: so many unusable entries, then the entry; so many at the end -/
def gap : Nat → List CpInfo → List CpInfo
  | 0, r => r
  | n + 1, r => .unusable :: gap n r
def poolList (es : List (Nat × CpInfo)) (last : Nat) : List CpInfo := es.foldr (fun e r => gap e.1 (e.2 :: r)) (gap last [])
def pool (es : List (Nat × CpInfo)) (last : Nat) : Array CpInfo := ⟨poolList es last⟩
def fileOf (pool : Array CpInfo) (this : Nat) (attrs : Array Attribute := #[]) (ms : Array MethodInfo := #[]) (fl : Nat := 33) (sup : Nat := 0) (ifs : Array Nat := #[]) (fds : Array FieldInfo := #[]) : ClassFile where
  minorVersion := 0
  majorVersion := 65
  constantPool := pool
  accessFlags := fl
  thisClass := this
  superClass := sup
  interfaces := ifs
  fields := fds
  methods := ms
  attributes := attrs
def plain (name : String) (sup : Option ClassId) : Class where
  name := name
  kind := .ordinary
  loader := none
  accessFlags := 33
  super := sup
  interfaces := #[]
  cf := none
  fields := #[]
  methods := #[]
  instanceTypes := #[]
  staticTypes := #[]
  resolved := #[]
  callSites := []
  init := .initialized
  statics := none
  mirror := none

def pool0 : Array CpInfo := pool [(5, u "<init>"), (0, u "()V"), (1, .class_ 10), (1, u "java/lang/Object")] 113

def k0c0 : Code := { maxStack := 0, maxLocals := 1, code := object_method_1_code, exceptionTable := #[], attributes := #[] }
def k0m0 : Method := { name := "<init>", desc := "()V", sig := { parameters := [], returnType := none }, accessFlags := 1, code := some k0c0 }
/-- java/lang/Object -/
def k0 : Class := { plain "java/lang/Object" none with
  accessFlags := 33
  interfaces := #[]
  cf := some (fileOf pool0 8 #[] #[{ accessFlags := 1, nameIndex := 5, descriptorIndex := 6, attributes := #[] }] 33 0 #[] #[])
  fields := #[]
  methods := #[k0m0]
  instanceTypes := #[]
  staticTypes := #[]
  resolved := Array.replicate 124 none
  statics := none }

def pool1 : Array CpInfo := pool [(2, .class_ 4), (0, .nameAndType 5 6), (0, u "java/lang/Object"), (0, u "<init>"), (0, u "()V"), (0, .integer 2147483647), (0, .long 1000000), (1, .long 4), (1, .class_ 13), (0, u "com/example/epochcast/epochcast/server/SessionLeases"), (0, .methodref 12 15), (0, .nameAndType 5 16), (0, u "(I)V"), (0, .class_ 18), (0, u "java/util/ArrayList"), (0, .methodref 17 3), (0, .methodref 12 21), (0, .nameAndType 22 23), (0, u "begin"), (0, u "(Ljava/util/Collection;J)V"), (0, .methodref 12 25), (0, .nameAndType 26 27), (0, u "heartbeat"), (0, u "(J)V"), (0, .methodref 12 29), (0, .nameAndType 30 31), (0, u "nextCheck"), (0, u "(J)J"), (0, .methodref 33 34), (0, .class_ 35), (0, .nameAndType 36 37), (0, u "com/example/epochcast/epochcast/server/SessionLeasesHeartbeatPinLaw"), (0, u "ref"), (0, u "(JJJJJ)J"), (2, u "law"), (0, u "(IJJJJ)Z")] 3

def k1m0 : Method := { name := "<init>", desc := "()V", sig := { parameters := [], returnType := none }, accessFlags := 1, code := none }
def k1c1 : Code := { maxStack := 12, maxLocals := 29, code := code, exceptionTable := #[], attributes := #[] }
def k1m1 : Method := { name := "law", desc := "(IJJJJ)Z", sig := { parameters := [.int, .long, .long, .long, .long], returnType := some .boolean }, accessFlags := 9, code := some k1c1 }
def k1c2 : Code := { maxStack := 4, maxLocals := 12, code := method_3_code, exceptionTable := #[], attributes := #[] }
def k1m2 : Method := { name := "ref", desc := "(JJJJJ)J", sig := { parameters := [.long, .long, .long, .long, .long], returnType := some .long }, accessFlags := 10, code := some k1c2 }
/-- com/example/epochcast/epochcast/server/SessionLeasesHeartbeatPinLaw -/
def k1 : Class := { plain "com/example/epochcast/epochcast/server/SessionLeasesHeartbeatPinLaw" (some 0) with
  accessFlags := 49
  interfaces := #[]
  cf := some (fileOf pool1 33 #[] #[{ accessFlags := 1, nameIndex := 5, descriptorIndex := 6, attributes := #[] }, { accessFlags := 9, nameIndex := 40, descriptorIndex := 41, attributes := #[] }, { accessFlags := 10, nameIndex := 36, descriptorIndex := 37, attributes := #[] }] 49 2 #[] #[])
  fields := #[]
  methods := #[k1m0, k1m1, k1m2]
  instanceTypes := #[]
  staticTypes := #[]
  resolved := Array.replicate 45 none
  statics := none }

def pool2 : Array CpInfo := pool [(1, .class_ 2), (0, u "com/example/epochcast/epochcast/server/DataTree$Sessions"), (0, .class_ 4), (0, u "java/lang/Object"), (7, .class_ 13), (0, u "com/example/epochcast/epochcast/server/DataTree")] 2

/-- com/example/epochcast/epochcast/server/DataTree$Sessions -/
def k2 : Class := { plain "com/example/epochcast/epochcast/server/DataTree$Sessions" (some 0) with
  accessFlags := 1536
  interfaces := #[]
  cf := some (fileOf pool2 1 #[.nestHost 12] #[] 1536 3 #[] #[])
  fields := #[]
  methods := #[]
  instanceTypes := #[]
  staticTypes := #[]
  resolved := Array.replicate 16 none
  statics := none }

def pool3 : Array CpInfo := pool [(1, .methodref 2 3), (0, .class_ 4), (0, .nameAndType 5 6), (0, u "java/lang/Object"), (0, u "<init>"), (0, u "()V"), (0, .class_ 8), (0, u "java/util/HashMap"), (0, .methodref 7 3), (0, .fieldref 11 12), (0, .class_ 13), (0, .nameAndType 14 15), (0, u "com/example/epochcast/epochcast/server/SessionLeases"), (0, u "leases"), (0, u "Ljava/util/Map;"), (0, .class_ 17), (0, u "java/util/PriorityQueue"), (0, .methodref 16 3), (0, .fieldref 11 20), (0, .nameAndType 21 22), (0, u "due"), (0, u "Ljava/util/PriorityQueue;"), (0, .fieldref 24 25), (0, .class_ 26), (0, .nameAndType 27 28), (0, u "java/util/concurrent/TimeUnit"), (0, u "MILLISECONDS"), (0, u "Ljava/util/concurrent/TimeUnit;"), (0, .methodref 24 30), (0, .nameAndType 31 32), (0, u "toNanos"), (0, u "(J)J"), (0, .fieldref 11 34), (0, .nameAndType 35 36), (0, u "tick"), (0, u "J"), (0, .long 4), (1, .fieldref 11 40), (0, .nameAndType 41 36), (0, u "lapse"), (0, .methodref 11 43), (0, .nameAndType 44 6), (0, u "clear"), (0, .fieldref 11 46), (0, .nameAndType 47 36), (0, u "lastHeartbeat"), (0, .fieldref 11 49), (0, .nameAndType 50 36), (0, u "countingFrom"), (0, .interfaceMethodref 52 53), (0, .class_ 54), (0, .nameAndType 55 56), (0, u "java/util/Collection"), (0, u "iterator"), (0, u "()Ljava/util/Iterator;"), (0, .interfaceMethodref 58 59), (0, .class_ 60), (0, .nameAndType 61 62), (0, u "java/util/Iterator"), (0, u "hasNext"), (0, u "()Z"), (3, u "()Ljava/lang/Object;"), (19, .class_ 88), (1, u "com/example/epochcast/epochcast/server/SessionLeases$Lease"), (1, .interfaceMethodref 91 43), (0, .class_ 92), (0, u "java/util/Map"), (0, .methodref 16 43), (11, .class_ 107), (1, u "com/example/epochcast/epochcast/server/SessionLeases$1"), (37, u "I"), (18, .methodref 16 165), (0, .nameAndType 166 66), (0, u "peek"), (0, .class_ 168), (0, u "com/example/epochcast/epochcast/server/SessionLeases$Due"), (21, .class_ 191), (0, u "com/example/epochcast/epochcast/server/DataTree$Sessions"), (0, u "NONE"), (5, u "(I)V"), (2, u "begin"), (0, u "(Ljava/util/Collection;J)V"), (2, u "heartbeat"), (0, u "(J)V"), (10, u "nextCheck")] 13

def k3c0 : Code := { maxStack := 7, maxLocals := 2, code := prog_190_method_1_code, exceptionTable := #[], attributes := #[] }
def k3m0 : Method := { name := "<init>", desc := "(I)V", sig := { parameters := [.int], returnType := none }, accessFlags := 0, code := some k3c0 }
def k3c1 : Code := { maxStack := 7, maxLocals := 6, code := prog_190_method_2_code, exceptionTable := #[], attributes := #[] }
def k3m1 : Method := { name := "begin", desc := "(Ljava/util/Collection;J)V", sig := { parameters := [(.object "java/util/Collection"), .long], returnType := none }, accessFlags := 0, code := some k3c1 }
def k3c2 : Code := { maxStack := 5, maxLocals := 3, code := prog_190_method_3_code, exceptionTable := #[], attributes := #[] }
def k3m2 : Method := { name := "heartbeat", desc := "(J)V", sig := { parameters := [.long], returnType := none }, accessFlags := 0, code := some k3c2 }
def k3c3 : Code := { maxStack := 1, maxLocals := 1, code := prog_190_method_4_code, exceptionTable := #[], attributes := #[] }
def k3m3 : Method := { name := "clear", desc := "()V", sig := { parameters := [], returnType := none }, accessFlags := 0, code := some k3c3 }
def k3c4 : Code := { maxStack := 4, maxLocals := 8, code := prog_190_method_12_code, exceptionTable := #[], attributes := #[] }
def k3m4 : Method := { name := "nextCheck", desc := "(J)J", sig := { parameters := [.long], returnType := some .long }, accessFlags := 0, code := some k3c4 }
/-- com/example/epochcast/epochcast/server/SessionLeases -/
def k3 : Class := { plain "com/example/epochcast/epochcast/server/SessionLeases" (some 0) with
  accessFlags := 48
  interfaces := #[2]
  cf := some (fileOf pool3 11 #[.nestMembers #[105, 167, 86]] #[{ accessFlags := 0, nameIndex := 5, descriptorIndex := 198, attributes := #[] }, { accessFlags := 0, nameIndex := 201, descriptorIndex := 202, attributes := #[] }, { accessFlags := 0, nameIndex := 205, descriptorIndex := 206, attributes := #[] }, { accessFlags := 0, nameIndex := 44, descriptorIndex := 6, attributes := #[] }, { accessFlags := 0, nameIndex := 217, descriptorIndex := 32, attributes := #[] }] 48 2 #[190] #[{ accessFlags := 24, nameIndex := 192, descriptorIndex := 145, attributes := #[] }, { accessFlags := 18, nameIndex := 35, descriptorIndex := 36, attributes := #[] }, { accessFlags := 18, nameIndex := 41, descriptorIndex := 36, attributes := #[] }, { accessFlags := 18, nameIndex := 14, descriptorIndex := 15, attributes := #[] }, { accessFlags := 18, nameIndex := 21, descriptorIndex := 22, attributes := #[] }, { accessFlags := 2, nameIndex := 47, descriptorIndex := 36, attributes := #[] }, { accessFlags := 2, nameIndex := 50, descriptorIndex := 36, attributes := #[] }])
  fields := #[{ name := "NONE", type := .int, accessFlags := 24, slot := 0, constantValue := 0 }, { name := "tick", type := .long, accessFlags := 18, slot := 0, constantValue := 0 }, { name := "lapse", type := .long, accessFlags := 18, slot := 1, constantValue := 0 }, { name := "leases", type := (.object "java/util/Map"), accessFlags := 18, slot := 2, constantValue := 0 }, { name := "due", type := (.object "java/util/PriorityQueue"), accessFlags := 18, slot := 3, constantValue := 0 }, { name := "lastHeartbeat", type := .long, accessFlags := 2, slot := 4, constantValue := 0 }, { name := "countingFrom", type := .long, accessFlags := 2, slot := 5, constantValue := 0 }]
  methods := #[k3m0, k3m1, k3m2, k3m3, k3m4]
  instanceTypes := #[.long, .long, (.object "java/util/Map"), (.object "java/util/PriorityQueue"), .long, .long]
  staticTypes := #[.int]
  resolved := Array.replicate 231 none
  statics := none }

def pool4 : Array CpInfo := pool [(2, .class_ 4), (1, u "java/util/Map"), (31, .class_ 37), (0, u "java/util/Map$Entry"), (55, .class_ 94), (0, u "java/lang/Object"), (34, u "clear"), (0, u "()V")] 132

def k4m0 : Method := { name := "clear", desc := "()V", sig := { parameters := [], returnType := none }, accessFlags := 1025, code := none }
/-- java/util/Map -/
def k4 : Class := { plain "java/util/Map" (some 0) with
  accessFlags := 1537
  interfaces := #[]
  cf := some (fileOf pool4 2 #[.nestMembers #[36]] #[{ accessFlags := 1025, nameIndex := 129, descriptorIndex := 130, attributes := #[] }] 1537 93 #[] #[])
  fields := #[]
  methods := #[k4m0]
  instanceTypes := #[]
  staticTypes := #[]
  resolved := Array.replicate 263 none
  statics := none }

def pool5 : Array CpInfo := pool [(1, .methodref 2 3), (0, .class_ 4), (0, .nameAndType 5 6), (0, u "java/lang/Object"), (0, u "<init>"), (0, u "()V"), (1, .class_ 10), (1, u "java/util/AbstractMap"), (42, .class_ 54), (0, u "java/util/Map"), (9, u "keySet"), (0, u "Ljava/util/Set;"), (0, .class_ 67), (0, u "java/util/AbstractMap$1"), (5, u "values"), (0, u "Ljava/util/Collection;"), (0, .class_ 76), (0, u "java/util/AbstractMap$2"), (104, .class_ 182), (0, u "java/util/AbstractMap$ViewCollection"), (0, .class_ 184), (0, u "java/util/AbstractMap$SimpleImmutableEntry"), (0, .class_ 186), (0, u "java/util/AbstractMap$SimpleEntry"), (0, .class_ 188), (0, u "java/util/AbstractMap$2$1"), (0, .class_ 190), (0, u "java/util/AbstractMap$1$1")] 5

def k5c0 : Code := { maxStack := 1, maxLocals := 1, code := jdk_71_method_1_code, exceptionTable := #[], attributes := #[] }
def k5m0 : Method := { name := "<init>", desc := "()V", sig := { parameters := [], returnType := none }, accessFlags := 4, code := some k5c0 }
/-- java/util/AbstractMap -/
def k5 : Class := { plain "java/util/AbstractMap" (some 0) with
  accessFlags := 1057
  interfaces := #[4]
  cf := some (fileOf pool5 8 #[.nestMembers #[181, 183, 185, 75, 187, 66, 189]] #[{ accessFlags := 4, nameIndex := 5, descriptorIndex := 6, attributes := #[] }] 1057 2 #[53] #[{ accessFlags := 128, nameIndex := 64, descriptorIndex := 65, attributes := #[] }, { accessFlags := 128, nameIndex := 73, descriptorIndex := 74, attributes := #[] }])
  fields := #[{ name := "keySet", type := (.object "java/util/Set"), accessFlags := 128, slot := 0, constantValue := 0 }, { name := "values", type := (.object "java/util/Collection"), accessFlags := 128, slot := 1, constantValue := 0 }]
  methods := #[k5m0]
  instanceTypes := #[(.object "java/util/Set"), (.object "java/util/Collection")]
  staticTypes := #[]
  resolved := Array.replicate 196 none
  statics := none }

def pool6 : Array CpInfo := pool [(1, .class_ 2), (0, u "java/lang/Cloneable"), (0, .class_ 4), (0, u "java/lang/Object")] 2

/-- java/lang/Cloneable -/
def k6 : Class := { plain "java/lang/Cloneable" (some 0) with
  accessFlags := 1537
  interfaces := #[]
  cf := some (fileOf pool6 1 #[] #[] 1537 3 #[] #[])
  fields := #[]
  methods := #[]
  instanceTypes := #[]
  staticTypes := #[]
  resolved := Array.replicate 7 none
  statics := none }

def pool7 : Array CpInfo := pool [(1, .class_ 2), (0, u "java/io/Serializable"), (0, .class_ 4), (0, u "java/lang/Object")] 2

/-- java/io/Serializable -/
def k7 : Class := { plain "java/io/Serializable" (some 0) with
  accessFlags := 1537
  interfaces := #[]
  cf := some (fileOf pool7 1 #[] #[] 1537 3 #[] #[])
  fields := #[]
  methods := #[]
  instanceTypes := #[]
  staticTypes := #[]
  resolved := Array.replicate 7 none
  statics := none }

def pool8 : Array CpInfo := pool [(40, .class_ 41), (0, u "java/util/HashMap"), (1, .methodref 44 45), (0, .class_ 46), (0, .nameAndType 47 48), (0, u "java/util/AbstractMap"), (0, u "<init>"), (0, u "()V"), (32, .fieldref 40 82), (0, .nameAndType 83 84), (0, u "loadFactor"), (0, u "F"), (5, u "threshold"), (0, u "I"), (0, .float 1061158912), (8, .class_ 103), (1, u "java/util/Map"), (0, u "size"), (0, .fieldref 40 106), (0, .nameAndType 107 108), (0, u "table"), (0, u "[Ljava/util/HashMap$Node;"), (14, u "entrySet"), (39, .class_ 165), (1, u "java/util/HashMap$Node"), (14, .class_ 181), (0, u "java/util/HashMap$TreeNode"), (20, .fieldref 40 203), (0, .nameAndType 204 91), (0, u "modCount"), (37, u "Ljava/util/Set;"), (0, .class_ 244), (0, u "java/util/HashMap$KeySet"), (18, .class_ 264), (0, u "java/util/HashMap$Values"), (3, .class_ 269), (0, u "java/util/HashMap$EntrySet"), (76, .class_ 348), (1, u "java/util/HashMap$UnsafeHolder"), (43, .class_ 393), (0, u "java/lang/Cloneable"), (0, .class_ 395), (0, u "java/io/Serializable"), (0, u "serialVersionUID"), (0, u "J"), (3, u "DEFAULT_INITIAL_CAPACITY"), (1, u "MAXIMUM_CAPACITY"), (0, u "DEFAULT_LOAD_FACTOR"), (0, u "TREEIFY_THRESHOLD"), (1, u "UNTREEIFY_THRESHOLD"), (1, u "MIN_TREEIFY_CAPACITY"), (92, u "clear"), (93, .class_ 597), (0, u "java/util/HashMap$EntrySpliterator"), (0, .class_ 599), (0, u "java/util/HashMap$ValueSpliterator"), (0, .class_ 601), (0, u "java/util/HashMap$KeySpliterator"), (0, .class_ 603), (0, u "java/util/HashMap$HashMapSpliterator"), (0, .class_ 605), (0, u "java/util/HashMap$EntryIterator"), (0, .class_ 607), (0, u "java/util/HashMap$ValueIterator"), (0, .class_ 609), (0, u "java/util/HashMap$KeyIterator"), (0, .class_ 611), (0, u "java/util/HashMap$HashIterator")] 17

def k8c0 : Code := { maxStack := 2, maxLocals := 1, code := jdk_69_method_7_code, exceptionTable := #[], attributes := #[] }
def k8m0 : Method := { name := "<init>", desc := "()V", sig := { parameters := [], returnType := none }, accessFlags := 1, code := some k8c0 }
def k8c1 : Code := { maxStack := 3, maxLocals := 3, code := jdk_69_method_22_code, exceptionTable := #[], attributes := #[] }
def k8m1 : Method := { name := "clear", desc := "()V", sig := { parameters := [], returnType := none }, accessFlags := 1, code := some k8c1 }
/-- java/util/HashMap -/
def k8 : Class := { plain "java/util/HashMap" (some 5) with
  accessFlags := 33
  interfaces := #[4, 6, 7]
  cf := some (fileOf pool8 40 #[.nestMembers #[180, 596, 598, 600, 602, 604, 606, 608, 610, 346, 268, 263, 243, 163]] #[{ accessFlags := 1, nameIndex := 47, descriptorIndex := 48, attributes := #[] }, { accessFlags := 1, nameIndex := 502, descriptorIndex := 48, attributes := #[] }] 33 44 #[101, 392, 394] #[{ accessFlags := 26, nameIndex := 396, descriptorIndex := 397, attributes := #[] }, { accessFlags := 24, nameIndex := 401, descriptorIndex := 91, attributes := #[] }, { accessFlags := 24, nameIndex := 403, descriptorIndex := 91, attributes := #[] }, { accessFlags := 24, nameIndex := 404, descriptorIndex := 84, attributes := #[] }, { accessFlags := 24, nameIndex := 405, descriptorIndex := 91, attributes := #[] }, { accessFlags := 24, nameIndex := 407, descriptorIndex := 91, attributes := #[] }, { accessFlags := 24, nameIndex := 409, descriptorIndex := 91, attributes := #[] }, { accessFlags := 128, nameIndex := 107, descriptorIndex := 108, attributes := #[] }, { accessFlags := 128, nameIndex := 123, descriptorIndex := 242, attributes := #[] }, { accessFlags := 128, nameIndex := 104, descriptorIndex := 91, attributes := #[] }, { accessFlags := 128, nameIndex := 204, descriptorIndex := 91, attributes := #[] }, { accessFlags := 0, nameIndex := 90, descriptorIndex := 91, attributes := #[] }, { accessFlags := 16, nameIndex := 83, descriptorIndex := 84, attributes := #[] }])
  fields := #[{ name := "serialVersionUID", type := .long, accessFlags := 26, slot := 0, constantValue := 0 }, { name := "DEFAULT_INITIAL_CAPACITY", type := .int, accessFlags := 24, slot := 1, constantValue := 0 }, { name := "MAXIMUM_CAPACITY", type := .int, accessFlags := 24, slot := 2, constantValue := 0 }, { name := "DEFAULT_LOAD_FACTOR", type := .float, accessFlags := 24, slot := 3, constantValue := 0 }, { name := "TREEIFY_THRESHOLD", type := .int, accessFlags := 24, slot := 4, constantValue := 0 }, { name := "UNTREEIFY_THRESHOLD", type := .int, accessFlags := 24, slot := 5, constantValue := 0 }, { name := "MIN_TREEIFY_CAPACITY", type := .int, accessFlags := 24, slot := 6, constantValue := 0 }, { name := "table", type := (.array (.object "java/util/HashMap$Node")), accessFlags := 128, slot := 2, constantValue := 0 }, { name := "entrySet", type := (.object "java/util/Set"), accessFlags := 128, slot := 3, constantValue := 0 }, { name := "size", type := .int, accessFlags := 128, slot := 4, constantValue := 0 }, { name := "modCount", type := .int, accessFlags := 128, slot := 5, constantValue := 0 }, { name := "threshold", type := .int, accessFlags := 0, slot := 6, constantValue := 0 }, { name := "loadFactor", type := .float, accessFlags := 16, slot := 7, constantValue := 0 }]
  methods := #[k8m0, k8m1]
  instanceTypes := #[(.object "java/util/Set"), (.object "java/util/Collection"), (.array (.object "java/util/HashMap$Node")), (.object "java/util/Set"), .int, .int, .int, .float]
  staticTypes := #[.long, .int, .int, .float, .int, .int, .int]
  resolved := Array.replicate 629 none
  statics := none }

def pool9 : Array CpInfo := pool [(8, .class_ 10), (1, u "java/lang/Iterable"), (24, .class_ 36), (0, u "java/lang/Object")] 25

/-- java/lang/Iterable -/
def k9 : Class := { plain "java/lang/Iterable" (some 0) with
  accessFlags := 1537
  interfaces := #[]
  cf := some (fileOf pool9 8 #[] #[] 1537 35 #[] #[])
  fields := #[]
  methods := #[]
  instanceTypes := #[]
  staticTypes := #[]
  resolved := Array.replicate 62 none
  statics := none }

def pool10 : Array CpInfo := pool [(10, .class_ 12), (1, u "java/util/Collection"), (10, u "iterator"), (0, u "()Ljava/util/Iterator;"), (35, .class_ 61), (0, u "java/lang/Object"), (0, .class_ 63), (0, u "java/lang/Iterable")] 51

def k10m0 : Method := { name := "iterator", desc := "()Ljava/util/Iterator;", sig := { parameters := [], returnType := some (.object "java/util/Iterator") }, accessFlags := 1025, code := none }
/-- java/util/Collection -/
def k10 : Class := { plain "java/util/Collection" (some 0) with
  accessFlags := 1537
  interfaces := #[9]
  cf := some (fileOf pool10 10 #[] #[{ accessFlags := 1025, nameIndex := 23, descriptorIndex := 24, attributes := #[] }] 1537 60 #[62] #[])
  fields := #[]
  methods := #[k10m0]
  instanceTypes := #[]
  staticTypes := #[]
  resolved := Array.replicate 115 none
  statics := none }

def pool11 : Array CpInfo := pool [(1, .methodref 2 3), (0, .class_ 4), (0, .nameAndType 5 6), (0, u "java/lang/Object"), (0, u "<init>"), (0, u "()V"), (1, .class_ 10), (1, u "java/util/AbstractCollection"), (66, .class_ 78), (0, u "java/util/Collection")] 81

def k11c0 : Code := { maxStack := 1, maxLocals := 1, code := jdk_22_method_1_code, exceptionTable := #[], attributes := #[] }
def k11m0 : Method := { name := "<init>", desc := "()V", sig := { parameters := [], returnType := none }, accessFlags := 4, code := some k11c0 }
/-- java/util/AbstractCollection -/
def k11 : Class := { plain "java/util/AbstractCollection" (some 0) with
  accessFlags := 1057
  interfaces := #[10]
  cf := some (fileOf pool11 8 #[] #[{ accessFlags := 4, nameIndex := 5, descriptorIndex := 6, attributes := #[] }] 1057 2 #[77] #[])
  fields := #[]
  methods := #[k11m0]
  instanceTypes := #[]
  staticTypes := #[]
  resolved := Array.replicate 160 none
  statics := none }

def pool12 : Array CpInfo := pool [(1, .class_ 2), (0, u "java/util/Queue"), (0, .class_ 4), (0, u "java/lang/Object"), (0, .class_ 6), (0, u "java/util/Collection")] 14

/-- java/util/Queue -/
def k12 : Class := { plain "java/util/Queue" (some 0) with
  accessFlags := 1537
  interfaces := #[10]
  cf := some (fileOf pool12 1 #[] #[] 1537 3 #[5] #[])
  fields := #[]
  methods := #[]
  instanceTypes := #[]
  staticTypes := #[]
  resolved := Array.replicate 21 none
  statics := none }

def pool13 : Array CpInfo := pool [(1, .methodref 2 3), (0, .class_ 4), (0, .nameAndType 5 6), (0, u "java/util/AbstractCollection"), (0, u "<init>"), (0, u "()V"), (1, .class_ 10), (1, u "java/util/AbstractQueue"), (43, .class_ 55), (0, u "java/util/Queue")] 31

def k13c0 : Code := { maxStack := 1, maxLocals := 1, code := jdk_2435_method_1_code, exceptionTable := #[], attributes := #[] }
def k13m0 : Method := { name := "<init>", desc := "()V", sig := { parameters := [], returnType := none }, accessFlags := 4, code := some k13c0 }
/-- java/util/AbstractQueue -/
def k13 : Class := { plain "java/util/AbstractQueue" (some 11) with
  accessFlags := 1057
  interfaces := #[12]
  cf := some (fileOf pool13 8 #[] #[{ accessFlags := 4, nameIndex := 5, descriptorIndex := 6, attributes := #[] }] 1057 2 #[54] #[])
  fields := #[]
  methods := #[k13m0]
  instanceTypes := #[]
  staticTypes := #[]
  resolved := Array.replicate 87 none
  statics := none }

def pool14 : Array CpInfo := pool [(1, .class_ 2), (0, u "java/util/PriorityQueue"), (0, .methodref 1 4), (0, .nameAndType 5 6), (0, u "<init>"), (0, u "(ILjava/util/Comparator;)V"), (0, .methodref 8 9), (0, .class_ 10), (0, .nameAndType 5 11), (0, u "java/util/AbstractQueue"), (0, u "()V"), (3, .class_ 16), (0, u "java/lang/Object"), (0, .fieldref 1 18), (0, .nameAndType 19 20), (0, u "queue"), (0, u "[Ljava/lang/Object;"), (0, .fieldref 1 22), (0, .nameAndType 23 24), (0, u "comparator"), (0, u "Ljava/util/Comparator;"), (31, u "size"), (1, .fieldref 1 59), (0, .nameAndType 56 60), (0, u "I"), (32, .fieldref 1 94), (0, .nameAndType 95 60), (0, u "modCount"), (25, .class_ 122), (0, u "java/util/PriorityQueue$Itr"), (73, u "()Ljava/lang/Object;"), (0, .class_ 198), (0, u "java/util/PriorityQueue$PriorityQueueSpliterator"), (45, .class_ 245), (0, u "java/io/Serializable"), (0, u "serialVersionUID"), (0, u "J"), (3, u "DEFAULT_INITIAL_CAPACITY"), (38, u "peek"), (11, u "clear")] 89

def k14c0 : Code := { maxStack := 3, maxLocals := 1, code := jdk_2655_method_1_code, exceptionTable := #[], attributes := #[] }
def k14m0 : Method := { name := "<init>", desc := "()V", sig := { parameters := [], returnType := none }, accessFlags := 1, code := some k14c0 }
def k14c1 : Code := { maxStack := 2, maxLocals := 3, code := jdk_2655_method_4_code, exceptionTable := #[], attributes := #[] }
def k14m1 : Method := { name := "<init>", desc := "(ILjava/util/Comparator;)V", sig := { parameters := [.int, (.object "java/util/Comparator")], returnType := none }, accessFlags := 1, code := some k14c1 }
def k14c2 : Code := { maxStack := 2, maxLocals := 1, code := jdk_2655_method_15_code, exceptionTable := #[], attributes := #[] }
def k14m2 : Method := { name := "peek", desc := "()Ljava/lang/Object;", sig := { parameters := [], returnType := some (.object "java/lang/Object") }, accessFlags := 1, code := some k14c2 }
def k14c3 : Code := { maxStack := 3, maxLocals := 4, code := jdk_2655_method_24_code, exceptionTable := #[], attributes := #[] }
def k14m3 : Method := { name := "clear", desc := "()V", sig := { parameters := [], returnType := none }, accessFlags := 1, code := some k14c3 }
/-- java/util/PriorityQueue -/
def k14 : Class := { plain "java/util/PriorityQueue" (some 13) with
  accessFlags := 33
  interfaces := #[7]
  cf := some (fileOf pool14 1 #[.nestMembers #[197, 121]] #[{ accessFlags := 1, nameIndex := 5, descriptorIndex := 11, attributes := #[] }, { accessFlags := 1, nameIndex := 5, descriptorIndex := 6, attributes := #[] }, { accessFlags := 1, nameIndex := 290, descriptorIndex := 196, attributes := #[] }, { accessFlags := 1, nameIndex := 302, descriptorIndex := 11, attributes := #[] }] 33 8 #[244] #[{ accessFlags := 26, nameIndex := 246, descriptorIndex := 247, attributes := #[] }, { accessFlags := 26, nameIndex := 251, descriptorIndex := 60, attributes := #[] }, { accessFlags := 128, nameIndex := 19, descriptorIndex := 20, attributes := #[] }, { accessFlags := 0, nameIndex := 56, descriptorIndex := 60, attributes := #[] }, { accessFlags := 18, nameIndex := 23, descriptorIndex := 24, attributes := #[] }, { accessFlags := 128, nameIndex := 95, descriptorIndex := 60, attributes := #[] }])
  fields := #[{ name := "serialVersionUID", type := .long, accessFlags := 26, slot := 0, constantValue := 0 }, { name := "DEFAULT_INITIAL_CAPACITY", type := .int, accessFlags := 26, slot := 1, constantValue := 0 }, { name := "queue", type := (.array (.object "java/lang/Object")), accessFlags := 128, slot := 0, constantValue := 0 }, { name := "size", type := .int, accessFlags := 0, slot := 1, constantValue := 0 }, { name := "comparator", type := (.object "java/util/Comparator"), accessFlags := 18, slot := 2, constantValue := 0 }, { name := "modCount", type := .int, accessFlags := 128, slot := 3, constantValue := 0 }]
  methods := #[k14m0, k14m1, k14m2, k14m3]
  instanceTypes := #[(.array (.object "java/lang/Object")), .int, (.object "java/util/Comparator"), .int]
  staticTypes := #[.long, .int]
  resolved := Array.replicate 392 none
  statics := none }

def pool15 : Array CpInfo := pool [(1, .class_ 2), (0, u "java/lang/constant/Constable"), (0, .class_ 4), (0, u "java/lang/Object")] 6

/-- java/lang/constant/Constable -/
def k15 : Class := { plain "java/lang/constant/Constable" (some 0) with
  accessFlags := 1537
  interfaces := #[]
  cf := some (fileOf pool15 1 #[] #[] 1537 3 #[] #[])
  fields := #[]
  methods := #[]
  instanceTypes := #[]
  staticTypes := #[]
  resolved := Array.replicate 11 none
  statics := none }

def pool16 : Array CpInfo := pool [(1, .class_ 2), (0, u "java/lang/Comparable"), (0, .class_ 4), (0, u "java/lang/Object")] 7

/-- java/lang/Comparable -/
def k16 : Class := { plain "java/lang/Comparable" (some 0) with
  accessFlags := 1537
  interfaces := #[]
  cf := some (fileOf pool16 1 #[] #[] 1537 3 #[] #[])
  fields := #[]
  methods := #[]
  instanceTypes := #[]
  staticTypes := #[]
  resolved := Array.replicate 12 none
  statics := none }

def pool17 : Array CpInfo := pool [(2, .class_ 4), (1, u "java/lang/Enum"), (0, u "name"), (0, u "Ljava/lang/String;"), (2, u "ordinal"), (0, u "I"), (1, .class_ 14), (1, u "java/lang/Object"), (4, u "hash"), (86, .class_ 108), (1, u "java/lang/Enum$EnumDesc"), (2, .class_ 112), (0, u "java/lang/constant/Constable"), (0, .class_ 114), (0, u "java/lang/Comparable"), (0, .class_ 116), (0, u "java/io/Serializable")] 87

/-- java/lang/Enum -/
def k17 : Class := { plain "java/lang/Enum" (some 0) with
  accessFlags := 1057
  interfaces := #[15, 16, 7]
  cf := some (fileOf pool17 2 #[.nestMembers #[106]] #[] 1057 12 #[111, 113, 115] #[{ accessFlags := 18, nameIndex := 5, descriptorIndex := 6, attributes := #[] }, { accessFlags := 18, nameIndex := 9, descriptorIndex := 10, attributes := #[] }, { accessFlags := 2, nameIndex := 19, descriptorIndex := 10, attributes := #[] }])
  fields := #[{ name := "name", type := (.object "java/lang/String"), accessFlags := 18, slot := 0, constantValue := 0 }, { name := "ordinal", type := .int, accessFlags := 18, slot := 1, constantValue := 0 }, { name := "hash", type := .int, accessFlags := 2, slot := 2, constantValue := 0 }]
  methods := #[]
  instanceTypes := #[(.object "java/lang/String"), .int, .int]
  staticTypes := #[]
  resolved := Array.replicate 204 none
  statics := none }

def pool18 : Array CpInfo := pool [(1, .class_ 2), (0, u "java/util/concurrent/TimeUnit"), (2, u "NANOSECONDS"), (0, u "Ljava/util/concurrent/TimeUnit;"), (2, u "MICROSECONDS"), (2, u "MILLISECONDS"), (2, u "SECONDS"), (2, u "MINUTES"), (2, u "HOURS"), (2, u "DAYS"), (2, u "$VALUES"), (0, u "[Ljava/util/concurrent/TimeUnit;"), (6, .class_ 37), (1, u "java/lang/Enum"), (6, .fieldref 1 45), (0, .nameAndType 46 47), (0, u "scale"), (0, u "J"), (4, .fieldref 1 53), (0, .nameAndType 54 47), (0, u "maxNanos"), (4, u "microRatio"), (2, u "maxMicros"), (4, u "milliRatio"), (0, u "I"), (2, u "maxMillis"), (4, u "secRatio"), (2, u "maxSecs"), (8, u "toNanos"), (0, u "(J)J"), (73, .class_ 165), (1, u "java/util/concurrent/TimeUnit$1"), (46, u "NANO_SCALE"), (3, u "MICRO_SCALE"), (0, u "MILLI_SCALE"), (0, u "SECOND_SCALE"), (0, u "MINUTE_SCALE"), (0, u "HOUR_SCALE"), (0, u "DAY_SCALE")] 61

def k18c0 : Code := { maxStack := 6, maxLocals := 7, code := jdk_2799_method_7_code, exceptionTable := #[], attributes := #[] }
def k18m0 : Method := { name := "toNanos", desc := "(J)J", sig := { parameters := [.long], returnType := some .long }, accessFlags := 1, code := some k18c0 }
/-- java/util/concurrent/TimeUnit -/
def k18 : Class := { plain "java/util/concurrent/TimeUnit" (some 17) with
  accessFlags := 16433
  interfaces := #[]
  cf := some (fileOf pool18 1 #[.nestMembers #[163]] #[{ accessFlags := 1, nameIndex := 88, descriptorIndex := 89, attributes := #[] }] 16433 35 #[] #[{ accessFlags := 16409, nameIndex := 5, descriptorIndex := 6, attributes := #[] }, { accessFlags := 16409, nameIndex := 9, descriptorIndex := 6, attributes := #[] }, { accessFlags := 16409, nameIndex := 12, descriptorIndex := 6, attributes := #[] }, { accessFlags := 16409, nameIndex := 15, descriptorIndex := 6, attributes := #[] }, { accessFlags := 16409, nameIndex := 18, descriptorIndex := 6, attributes := #[] }, { accessFlags := 16409, nameIndex := 21, descriptorIndex := 6, attributes := #[] }, { accessFlags := 16409, nameIndex := 24, descriptorIndex := 6, attributes := #[] }, { accessFlags := 26, nameIndex := 212, descriptorIndex := 47, attributes := #[] }, { accessFlags := 26, nameIndex := 216, descriptorIndex := 47, attributes := #[] }, { accessFlags := 26, nameIndex := 217, descriptorIndex := 47, attributes := #[] }, { accessFlags := 26, nameIndex := 218, descriptorIndex := 47, attributes := #[] }, { accessFlags := 26, nameIndex := 219, descriptorIndex := 47, attributes := #[] }, { accessFlags := 26, nameIndex := 220, descriptorIndex := 47, attributes := #[] }, { accessFlags := 26, nameIndex := 221, descriptorIndex := 47, attributes := #[] }, { accessFlags := 18, nameIndex := 46, descriptorIndex := 47, attributes := #[] }, { accessFlags := 18, nameIndex := 54, descriptorIndex := 47, attributes := #[] }, { accessFlags := 18, nameIndex := 62, descriptorIndex := 47, attributes := #[] }, { accessFlags := 18, nameIndex := 71, descriptorIndex := 47, attributes := #[] }, { accessFlags := 18, nameIndex := 79, descriptorIndex := 47, attributes := #[] }, { accessFlags := 18, nameIndex := 59, descriptorIndex := 47, attributes := #[] }, { accessFlags := 18, nameIndex := 67, descriptorIndex := 68, attributes := #[] }, { accessFlags := 18, nameIndex := 76, descriptorIndex := 68, attributes := #[] }, { accessFlags := 4122, nameIndex := 27, descriptorIndex := 28, attributes := #[] }])
  fields := #[{ name := "NANOSECONDS", type := (.object "java/util/concurrent/TimeUnit"), accessFlags := 16409, slot := 0, constantValue := 0 }, { name := "MICROSECONDS", type := (.object "java/util/concurrent/TimeUnit"), accessFlags := 16409, slot := 1, constantValue := 0 }, { name := "MILLISECONDS", type := (.object "java/util/concurrent/TimeUnit"), accessFlags := 16409, slot := 2, constantValue := 0 }, { name := "SECONDS", type := (.object "java/util/concurrent/TimeUnit"), accessFlags := 16409, slot := 3, constantValue := 0 }, { name := "MINUTES", type := (.object "java/util/concurrent/TimeUnit"), accessFlags := 16409, slot := 4, constantValue := 0 }, { name := "HOURS", type := (.object "java/util/concurrent/TimeUnit"), accessFlags := 16409, slot := 5, constantValue := 0 }, { name := "DAYS", type := (.object "java/util/concurrent/TimeUnit"), accessFlags := 16409, slot := 6, constantValue := 0 }, { name := "NANO_SCALE", type := .long, accessFlags := 26, slot := 7, constantValue := 0 }, { name := "MICRO_SCALE", type := .long, accessFlags := 26, slot := 8, constantValue := 0 }, { name := "MILLI_SCALE", type := .long, accessFlags := 26, slot := 9, constantValue := 0 }, { name := "SECOND_SCALE", type := .long, accessFlags := 26, slot := 10, constantValue := 0 }, { name := "MINUTE_SCALE", type := .long, accessFlags := 26, slot := 11, constantValue := 0 }, { name := "HOUR_SCALE", type := .long, accessFlags := 26, slot := 12, constantValue := 0 }, { name := "DAY_SCALE", type := .long, accessFlags := 26, slot := 13, constantValue := 0 }, { name := "scale", type := .long, accessFlags := 18, slot := 3, constantValue := 0 }, { name := "maxNanos", type := .long, accessFlags := 18, slot := 4, constantValue := 0 }, { name := "maxMicros", type := .long, accessFlags := 18, slot := 5, constantValue := 0 }, { name := "maxMillis", type := .long, accessFlags := 18, slot := 6, constantValue := 0 }, { name := "maxSecs", type := .long, accessFlags := 18, slot := 7, constantValue := 0 }, { name := "microRatio", type := .long, accessFlags := 18, slot := 8, constantValue := 0 }, { name := "milliRatio", type := .int, accessFlags := 18, slot := 9, constantValue := 0 }, { name := "secRatio", type := .int, accessFlags := 18, slot := 10, constantValue := 0 }, { name := "$VALUES", type := (.array (.object "java/util/concurrent/TimeUnit")), accessFlags := 4122, slot := 14, constantValue := 0 }]
  methods := #[k18m0]
  instanceTypes := #[(.object "java/lang/String"), .int, .int, .long, .long, .long, .long, .long, .long, .int, .int]
  staticTypes := #[(.object "java/util/concurrent/TimeUnit"), (.object "java/util/concurrent/TimeUnit"), (.object "java/util/concurrent/TimeUnit"), (.object "java/util/concurrent/TimeUnit"), (.object "java/util/concurrent/TimeUnit"), (.object "java/util/concurrent/TimeUnit"), (.object "java/util/concurrent/TimeUnit"), .long, .long, .long, .long, .long, .long, .long, (.array (.object "java/util/concurrent/TimeUnit"))]
  resolved := Array.replicate 283 none
  statics := some 0 }

def pool19 : Array CpInfo := pool [(8, .class_ 10), (1, u "java/util/SequencedCollection"), (15, .class_ 27), (0, u "java/lang/Object"), (0, .class_ 29), (0, u "java/util/Collection")] 27

/-- java/util/SequencedCollection -/
def k19 : Class := { plain "java/util/SequencedCollection" (some 0) with
  accessFlags := 1537
  interfaces := #[10]
  cf := some (fileOf pool19 8 #[] #[] 1537 26 #[28] #[])
  fields := #[]
  methods := #[]
  instanceTypes := #[]
  staticTypes := #[]
  resolved := Array.replicate 57 none
  statics := none }

def pool20 : Array CpInfo := pool [(8, .class_ 10), (1, u "java/util/List"), (92, .class_ 104), (0, u "java/lang/Object"), (15, .class_ 121), (0, u "java/util/SequencedCollection")] 129

/-- java/util/List -/
def k20 : Class := { plain "java/util/List" (some 0) with
  accessFlags := 1537
  interfaces := #[19]
  cf := some (fileOf pool20 8 #[] #[] 1537 103 #[120] #[])
  fields := #[]
  methods := #[]
  instanceTypes := #[]
  staticTypes := #[]
  resolved := Array.replicate 251 none
  statics := none }

def pool21 : Array CpInfo := pool [(1, .methodref 2 3), (0, .class_ 4), (0, .nameAndType 5 6), (0, u "java/util/AbstractCollection"), (0, u "<init>"), (0, u "()V"), (0, .fieldref 8 9), (0, .class_ 10), (0, .nameAndType 11 12), (0, u "java/util/AbstractList"), (0, u "modCount"), (0, u "I"), (64, .class_ 78), (0, u "java/util/AbstractList$Itr"), (3, .class_ 83), (0, u "java/util/AbstractList$ListItr"), (9, .class_ 94), (0, u "java/util/AbstractList$RandomAccessSubList"), (3, .class_ 99), (0, u "java/util/AbstractList$SubList"), (33, .class_ 134), (0, u "java/util/List"), (73, .class_ 209), (0, u "java/util/AbstractList$SubList$1"), (0, .class_ 211), (0, u "java/util/AbstractList$RandomAccessSpliterator")] 6

def k21c0 : Code := { maxStack := 2, maxLocals := 1, code := jdk_39_method_1_code, exceptionTable := #[], attributes := #[] }
def k21m0 : Method := { name := "<init>", desc := "()V", sig := { parameters := [], returnType := none }, accessFlags := 4, code := some k21c0 }
/-- java/util/AbstractList -/
def k21 : Class := { plain "java/util/AbstractList" (some 11) with
  accessFlags := 1057
  interfaces := #[20]
  cf := some (fileOf pool21 8 #[.nestMembers #[93, 98, 208, 210, 82, 77]] #[{ accessFlags := 4, nameIndex := 5, descriptorIndex := 6, attributes := #[] }] 1057 2 #[133] #[{ accessFlags := 132, nameIndex := 11, descriptorIndex := 12, attributes := #[] }])
  fields := #[{ name := "modCount", type := .int, accessFlags := 132, slot := 0, constantValue := 0 }]
  methods := #[k21m0]
  instanceTypes := #[.int]
  staticTypes := #[]
  resolved := Array.replicate 218 none
  statics := none }

def pool22 : Array CpInfo := pool [(1, .class_ 2), (0, u "java/util/RandomAccess"), (0, .class_ 4), (0, u "java/lang/Object")] 2

/-- java/util/RandomAccess -/
def k22 : Class := { plain "java/util/RandomAccess" (some 0) with
  accessFlags := 1537
  interfaces := #[]
  cf := some (fileOf pool22 1 #[] #[] 1537 3 #[] #[])
  fields := #[]
  methods := #[]
  instanceTypes := #[]
  staticTypes := #[]
  resolved := Array.replicate 7 none
  statics := none }

def pool23 : Array CpInfo := pool [(1, .methodref 2 3), (0, .class_ 4), (0, .nameAndType 5 6), (0, u "java/util/AbstractList"), (0, u "<init>"), (0, u "()V"), (2, .fieldref 10 11), (0, .class_ 12), (0, .nameAndType 13 14), (0, u "java/util/ArrayList"), (0, u "elementData"), (0, u "[Ljava/lang/Object;"), (2, u "EMPTY_ELEMENTDATA"), (21, .fieldref 10 40), (0, .nameAndType 41 14), (0, u "DEFAULTCAPACITY_EMPTY_ELEMENTDATA"), (8, u "size"), (0, u "I"), (96, .class_ 149), (0, u "java/util/List"), (16, u "iterator"), (0, u "()Ljava/util/Iterator;"), (94, .class_ 263), (0, u "java/util/ArrayList$ListItr"), (3, .class_ 268), (0, u "java/util/ArrayList$Itr"), (0, .methodref 267 270), (0, .nameAndType 5 271), (0, u "(Ljava/util/ArrayList;)V"), (4, .class_ 277), (0, u "java/util/ArrayList$SubList"), (12, .class_ 291), (0, u "java/util/ArrayList$ArrayListSpliterator"), (37, .class_ 330), (0, u "java/util/RandomAccess"), (0, .class_ 332), (0, u "java/lang/Cloneable"), (0, .class_ 334), (0, u "java/io/Serializable"), (0, u "serialVersionUID"), (0, u "J"), (3, u "DEFAULT_CAPACITY"), (159, .class_ 501), (0, u "java/util/ArrayList$SubList$2"), (0, .class_ 503), (0, u "java/util/ArrayList$SubList$1")] 5

def k23c0 : Code := { maxStack := 2, maxLocals := 1, code := jdk_38_method_2_code, exceptionTable := #[], attributes := #[] }
def k23m0 : Method := { name := "<init>", desc := "()V", sig := { parameters := [], returnType := none }, accessFlags := 1, code := some k23c0 }
def k23c1 : Code := { maxStack := 3, maxLocals := 1, code := jdk_38_method_55_code, exceptionTable := #[], attributes := #[] }
def k23m1 : Method := { name := "iterator", desc := "()Ljava/util/Iterator;", sig := { parameters := [], returnType := some (.object "java/util/Iterator") }, accessFlags := 1, code := some k23c1 }
/-- java/util/ArrayList -/
def k23 : Class := { plain "java/util/ArrayList" (some 21) with
  accessFlags := 33
  interfaces := #[20, 22, 6, 7]
  cf := some (fileOf pool23 10 #[.nestMembers #[290, 276, 500, 502, 262, 267]] #[{ accessFlags := 1, nameIndex := 5, descriptorIndex := 6, attributes := #[] }, { accessFlags := 1, nameIndex := 166, descriptorIndex := 167, attributes := #[] }] 33 2 #[148, 329, 331, 333] #[{ accessFlags := 26, nameIndex := 335, descriptorIndex := 336, attributes := #[] }, { accessFlags := 26, nameIndex := 340, descriptorIndex := 51, attributes := #[] }, { accessFlags := 26, nameIndex := 17, descriptorIndex := 14, attributes := #[] }, { accessFlags := 26, nameIndex := 41, descriptorIndex := 14, attributes := #[] }, { accessFlags := 128, nameIndex := 13, descriptorIndex := 14, attributes := #[] }, { accessFlags := 2, nameIndex := 50, descriptorIndex := 51, attributes := #[] }])
  fields := #[{ name := "serialVersionUID", type := .long, accessFlags := 26, slot := 0, constantValue := 0 }, { name := "DEFAULT_CAPACITY", type := .int, accessFlags := 26, slot := 1, constantValue := 0 }, { name := "EMPTY_ELEMENTDATA", type := (.array (.object "java/lang/Object")), accessFlags := 26, slot := 2, constantValue := 0 }, { name := "DEFAULTCAPACITY_EMPTY_ELEMENTDATA", type := (.array (.object "java/lang/Object")), accessFlags := 26, slot := 3, constantValue := 0 }, { name := "elementData", type := (.array (.object "java/lang/Object")), accessFlags := 128, slot := 1, constantValue := 0 }, { name := "size", type := .int, accessFlags := 2, slot := 2, constantValue := 0 }]
  methods := #[k23m0, k23m1]
  instanceTypes := #[.int, (.array (.object "java/lang/Object")), .int]
  staticTypes := #[.long, .int, (.array (.object "java/lang/Object")), (.array (.object "java/lang/Object"))]
  resolved := Array.replicate 509 none
  statics := some 1 }

def pool24 : Array CpInfo := pool [(16, .class_ 18), (1, u "java/util/Iterator"), (0, u "hasNext"), (0, u "()Z"), (10, .class_ 32), (0, u "java/lang/Object")] 20

def k24m0 : Method := { name := "hasNext", desc := "()Z", sig := { parameters := [], returnType := some .boolean }, accessFlags := 1025, code := none }
/-- java/util/Iterator -/
def k24 : Class := { plain "java/util/Iterator" (some 0) with
  accessFlags := 1537
  interfaces := #[]
  cf := some (fileOf pool24 16 #[] #[{ accessFlags := 1025, nameIndex := 19, descriptorIndex := 20, attributes := #[] }] 1537 31 #[] #[])
  fields := #[]
  methods := #[k24m0]
  instanceTypes := #[]
  staticTypes := #[]
  resolved := Array.replicate 53 none
  statics := none }

def pool25 : Array CpInfo := pool [(1, .fieldref 2 3), (0, .class_ 4), (0, .nameAndType 5 6), (0, u "java/util/ArrayList$Itr"), (0, u "this$0"), (0, u "Ljava/util/ArrayList;"), (0, .methodref 8 9), (0, .class_ 10), (0, .nameAndType 11 12), (0, u "java/lang/Object"), (0, u "<init>"), (0, u "()V"), (0, .fieldref 2 14), (0, .nameAndType 15 16), (0, u "lastRet"), (0, u "I"), (0, .fieldref 18 19), (0, .class_ 20), (0, .nameAndType 21 16), (0, u "java/util/ArrayList"), (0, u "modCount"), (0, .fieldref 2 23), (0, .nameAndType 24 16), (0, u "expectedModCount"), (0, .fieldref 2 26), (0, .nameAndType 27 16), (0, u "cursor"), (0, .fieldref 18 29), (0, .nameAndType 30 16), (0, u "size"), (38, .class_ 70), (0, u "java/util/Iterator"), (0, u "(Ljava/util/ArrayList;)V"), (8, u "hasNext"), (0, u "()Z")] 22

def k25c0 : Code := { maxStack := 2, maxLocals := 2, code := jdk_49_method_1_code, exceptionTable := #[], attributes := #[] }
def k25m0 : Method := { name := "<init>", desc := "(Ljava/util/ArrayList;)V", sig := { parameters := [(.object "java/util/ArrayList")], returnType := none }, accessFlags := 0, code := some k25c0 }
def k25c1 : Code := { maxStack := 2, maxLocals := 1, code := jdk_49_method_2_code, exceptionTable := #[], attributes := #[] }
def k25m1 : Method := { name := "hasNext", desc := "()Z", sig := { parameters := [], returnType := some .boolean }, accessFlags := 1, code := some k25c1 }
/-- java/util/ArrayList$Itr -/
def k25 : Class := { plain "java/util/ArrayList$Itr" (some 0) with
  accessFlags := 32
  interfaces := #[24]
  cf := some (fileOf pool25 2 #[.nestHost 18] #[{ accessFlags := 0, nameIndex := 11, descriptorIndex := 71, attributes := #[] }, { accessFlags := 1, nameIndex := 80, descriptorIndex := 81, attributes := #[] }] 32 8 #[69] #[{ accessFlags := 0, nameIndex := 27, descriptorIndex := 16, attributes := #[] }, { accessFlags := 0, nameIndex := 15, descriptorIndex := 16, attributes := #[] }, { accessFlags := 0, nameIndex := 24, descriptorIndex := 16, attributes := #[] }, { accessFlags := 4112, nameIndex := 5, descriptorIndex := 6, attributes := #[] }])
  fields := #[{ name := "cursor", type := .int, accessFlags := 0, slot := 0, constantValue := 0 }, { name := "lastRet", type := .int, accessFlags := 0, slot := 1, constantValue := 0 }, { name := "expectedModCount", type := .int, accessFlags := 0, slot := 2, constantValue := 0 }, { name := "this$0", type := (.object "java/util/ArrayList"), accessFlags := 4112, slot := 3, constantValue := 0 }]
  methods := #[k25m0, k25m1]
  instanceTypes := #[.int, .int, .int, (.object "java/util/ArrayList")]
  staticTypes := #[]
  resolved := Array.replicate 104 none
  statics := none }

def pool26 : Array CpInfo := pool [(2, .class_ 4), (1, u "java/lang/CharSequence"), (42, .class_ 48), (0, u "java/lang/CharSequence$1CodePointIterator"), (10, .class_ 60), (0, u "java/lang/CharSequence$1CharIterator"), (5, .class_ 67), (0, u "java/lang/Object")] 63

/-- java/lang/CharSequence -/
def k26 : Class := { plain "java/lang/CharSequence" (some 0) with
  accessFlags := 1537
  interfaces := #[]
  cf := some (fileOf pool26 2 #[.nestMembers #[47, 59]] #[] 1537 66 #[] #[])
  fields := #[]
  methods := #[]
  instanceTypes := #[]
  staticTypes := #[]
  resolved := Array.replicate 131 none
  statics := none }

def pool27 : Array CpInfo := pool [(1, .class_ 2), (0, u "java/lang/constant/ConstantDesc"), (0, .class_ 4), (0, u "java/lang/Object")] 32

/-- java/lang/constant/ConstantDesc -/
def k27 : Class := { plain "java/lang/constant/ConstantDesc" (some 0) with
  accessFlags := 1537
  interfaces := #[]
  cf := some (fileOf pool27 1 #[] #[] 1537 3 #[] #[])
  fields := #[]
  methods := #[]
  instanceTypes := #[]
  staticTypes := #[]
  resolved := Array.replicate 37 none
  statics := none }

def pool28 : Array CpInfo := pool [(2, .class_ 4), (1, u "java/lang/Object"), (0, u "<init>"), (0, u "()V"), (3, .class_ 12), (1, u "java/lang/String"), (0, u "value"), (0, u "[B"), (2, u "coder"), (0, u "B"), (2, u "hash"), (0, u "I"), (2, u "hashIsZero"), (0, u "Z"), (13, u "COMPACT_STRINGS"), (534, .class_ 576), (0, u "java/lang/CharSequence"), (22, u "CASE_INSENSITIVE_ORDER"), (0, u "Ljava/util/Comparator;"), (500, u "serialPersistentFields"), (0, u "[Ljava/io/ObjectStreamField;"), (0, .class_ 1104), (0, u "java/lang/String$CaseInsensitiveComparator"), (1, .class_ 1107), (0, u "java/io/Serializable"), (0, .class_ 1109), (0, u "java/lang/Comparable"), (0, .class_ 1111), (0, u "java/lang/constant/Constable"), (0, .class_ 1113), (0, u "java/lang/constant/ConstantDesc"), (2, u "serialVersionUID"), (0, u "J"), (3, u "REPL"), (0, u "C"), (2, u "LATIN1"), (1, u "UTF16")] 323

def k28m0 : Method := { name := "<init>", desc := "()V", sig := { parameters := [], returnType := none }, accessFlags := 1, code := none }
/-- java/lang/String -/
def k28 : Class := { plain "java/lang/String" (some 0) with
  accessFlags := 49
  interfaces := #[7, 16, 26, 15, 27]
  cf := some (fileOf pool28 10 #[.nestMembers #[1103]] #[{ accessFlags := 1, nameIndex := 5, descriptorIndex := 6, attributes := #[] }] 49 2 #[1106, 1108, 575, 1110, 1112] #[{ accessFlags := 18, nameIndex := 13, descriptorIndex := 14, attributes := #[] }, { accessFlags := 18, nameIndex := 17, descriptorIndex := 18, attributes := #[] }, { accessFlags := 2, nameIndex := 21, descriptorIndex := 22, attributes := #[] }, { accessFlags := 2, nameIndex := 25, descriptorIndex := 26, attributes := #[] }, { accessFlags := 26, nameIndex := 1116, descriptorIndex := 1117, attributes := #[] }, { accessFlags := 24, nameIndex := 40, descriptorIndex := 26, attributes := #[] }, { accessFlags := 26, nameIndex := 1101, descriptorIndex := 1102, attributes := #[] }, { accessFlags := 26, nameIndex := 1121, descriptorIndex := 1122, attributes := #[] }, { accessFlags := 25, nameIndex := 599, descriptorIndex := 600, attributes := #[] }, { accessFlags := 24, nameIndex := 1125, descriptorIndex := 18, attributes := #[] }, { accessFlags := 24, nameIndex := 1127, descriptorIndex := 18, attributes := #[] }])
  fields := #[{ name := "value", type := (.array .byte), accessFlags := 18, slot := 0, constantValue := 0 }, { name := "coder", type := .byte, accessFlags := 18, slot := 1, constantValue := 0 }, { name := "hash", type := .int, accessFlags := 2, slot := 2, constantValue := 0 }, { name := "hashIsZero", type := .boolean, accessFlags := 2, slot := 3, constantValue := 0 }, { name := "serialVersionUID", type := .long, accessFlags := 26, slot := 0, constantValue := 0 }, { name := "COMPACT_STRINGS", type := .boolean, accessFlags := 24, slot := 1, constantValue := 0 }, { name := "serialPersistentFields", type := (.array (.object "java/io/ObjectStreamField")), accessFlags := 26, slot := 2, constantValue := 0 }, { name := "REPL", type := .char, accessFlags := 26, slot := 3, constantValue := 0 }, { name := "CASE_INSENSITIVE_ORDER", type := (.object "java/util/Comparator"), accessFlags := 25, slot := 4, constantValue := 0 }, { name := "LATIN1", type := .byte, accessFlags := 24, slot := 5, constantValue := 0 }, { name := "UTF16", type := .byte, accessFlags := 24, slot := 6, constantValue := 0 }]
  methods := #[k28m0]
  instanceTypes := #[(.array .byte), .byte, .int, .boolean]
  staticTypes := #[.long, .boolean, (.array (.object "java/io/ObjectStreamField")), .char, (.object "java/util/Comparator"), .byte, .byte]
  resolved := Array.replicate 1451 none
  statics := none }

/-- the primitive byte -/
def k29 : Class := { plain "byte" none with kind := .primitive 'B', accessFlags := 0x411 }
/-- [B -/
def k30 : Class := { plain "[B" (some 0) with kind := .array 29 .byte, interfaces := #[6, 7], accessFlags := 1041 }

/-- the primitive int -/
def k31 : Class := { plain "int" none with kind := .primitive 'I', accessFlags := 0x411 }
/-- [I -/
def k32 : Class := { plain "[I" (some 0) with kind := .array 31 .int, interfaces := #[6, 7], accessFlags := 1041 }

/-- [Ljava/lang/Object; -/
def k33 : Class := { plain "[Ljava/lang/Object;" (some 0) with kind := .array 0 (.object "java/lang/Object"), interfaces := #[6, 7], accessFlags := 1041 }

def heap : Heap := #[{ cls := 18, slots := #[.null, .null, .ref 3, .null, .null, .null, .null, .long 0, .long 0, .long 0, .long 0, .long 0, .long 0, .long 0, .null], vm := .statics 18 },
  { cls := 23, slots := #[.long 0, .int 0, .ref 4, .ref 5], vm := .statics 23 },
  { cls := 28, slots := #[.null, .int 0, .int 0, .int 0], vm := .none },
  { cls := 18, slots := #[.ref 2, .int 2, .int 0, .long 1000000, .long 9223372036854, .long 9223372036854775, .long 9223372036854775807, .long 9223372036854775, .long 1000, .int 1, .int 1000], vm := .none },
  { cls := 33, slots := #[], vm := .none },
  { cls := 33, slots := #[], vm := .none }]
def classes : Array Class := #[k0, k1, k2, k3, k4, k5, k6, k7, k8, k9, k10, k11, k12, k13, k14, k15, k16, k17, k18, k19, k20, k21, k22, k23, k24, k25, k26, k27, k28, k29, k30, k31, k32, k33]
def interned : List (Array UInt16 × Addr) := []
def slotsUsed : Nat := 34
def theMethod : MethodId := ⟨1, 1⟩
def args0 : Array Value := #[.int 5, .long 1, .long 2, .long 3, .long 4]
def aboutOver (below : List Frame) : State where
  vm := { classes := classes, interned := interned.toArray }
  heap := heap
  slotsUsed := slotsUsed
  threads := #[{ frames := .invoking theMethod args0 :: below }]
def below0 : List Frame := [.native { method := ⟨0, 0⟩, args := #[] }]
def about1 : State := aboutOver below0
def p0 : Program := .bare "" "" ""
def e0 : Env := launch0.env 0 0 0
theorem w_frames : about1.frames = Frame.invoking theMethod args0 :: below0 := rfl
set_option maxRecDepth 65536 in
theorem w_args : argsFit about1.vm theMethod args0 = true := by decide +kernel
set_option maxRecDepth 65536 in
theorem w_heap : heapFits about1 = true := by decide +kernel
set_option maxRecDepth 65536 in
theorem w_runnable : about1.curStatus? = some .runnable := by decide +kernel
set_option maxRecDepth 65536 in
theorem w_alone : about1.alone = true := by decide +kernel
set_option maxRecDepth 65536 in
theorem w_named : about1.methodNamed? x = some theMethod := by decide +kernel
set_option maxRecDepth 65536 in
theorem w_hears : about1.hears theMethod below0 = true := by decide +kernel
set_option maxRecDepth 65536 in
theorem w_ripe : about1.ripe theMethod args0 below0 = true := by decide +kernel
theorem w_running : about1.status = .running := rfl
set_option maxRecDepth 65536 in
theorem w_room : about1.hasRoom e0.platform room_1 = true :=
  launch0.hasRoom_least _ room_1 (by decide +kernel) (by decide +kernel) (by decide +kernel) (by decide +kernel) (by decide +kernel) (by decide +kernel)
theorem allAtoms_all (ts : List Jvm.Cond) (a : Array Jvm.Value) (st : Jvm.State) : (allAtoms ts).before a st = ts.all (fun c => c.before a st) := by
  induction ts with
  | nil => rfl
  | cons c t ih =>
    show (Jvm.Cond.and c (allAtoms t)).before a st = _
    rw [Jvm.Cond.before_and, ih, List.all_cons]
def words1 : List Jvm.Cond := Jvm.Cond.code x code maxLocals ret :: tables_1
/-- a 'code' word, met by the world's own term for the bytes: nothing is compared byte by byte -/
theorem code_word {y : MethodName} {bytes : ByteArray} {mx : Nat} {rt : Option FieldType} {a : Array Value} {s : State} {m : MethodId} {meth : Method} {c : Code} (h1 : s.methodNamed? y = some m) (h2 : s.vm.method? m = some meth) (h3 : meth.code = some c) (h4 : c.code = bytes)
    (h5 : (c.maxLocals == mx && c.exceptionTable.isEmpty && decide (c.maxStack ≤ mostOperands) && decide (meth.sig.returnType = rt) && !meth.locks && decide (parseMethodDescriptor y.desc = some meth.sig)) = true) : (Jvm.Cond.code y bytes mx rt).before a s = true := by
  simp only [Bool.and_eq_true, beq_iff_eq, Bool.not_eq_true', decide_eq_true_eq] at h5
  obtain ⟨⟨⟨⟨⟨g1, g2⟩, g3⟩, g4⟩, g5⟩, g6⟩ := h5
  simp [Cond.before, Cond.holds, Cond.value, h1, h2, h3, h4, g1, g2, g3, g4, g5, g6]
def isCode : Jvm.Cond → Bool
  | .code _ _ _ _ => true
  | _ => false
theorem all_split {L : List Jvm.Cond} {P : Jvm.Cond → Bool} (h1 : L.all (fun c => isCode c || P c) = true) (h2 : ∀ c ∈ L.filter isCode, P c = true) : L.all P = true := by
  refine List.all_eq_true.mpr fun c hc => ?_
  have h := List.all_eq_true.mp h1 c hc
  rcases Bool.eq_false_or_eq_true (isCode c) with hi | hi
  · exact h2 c (List.mem_filter.mpr ⟨hc, hi⟩)
  · simpa [hi] using h
set_option maxRecDepth 65536 in
theorem w_c0 : (Jvm.Cond.code x code maxLocals ret).before args0 about1 = true := code_word (m := ⟨1, 1⟩) (meth := k1m1) (c := k1c1) (by decide +kernel) rfl rfl rfl (by decide +kernel)
set_option maxRecDepth 65536 in
theorem w_c1 : (Jvm.Cond.code ({ cls := "com/example/epochcast/epochcast/server/SessionLeases", name := "<init>", desc := "(I)V" } : Jvm.MethodName) prog_190_method_1_code (2 : Nat) (Option.none : Option Jvm.ClassFile.FieldType)).before args0 about1 = true := code_word (m := ⟨3, 0⟩) (meth := k3m0) (c := k3c0) (by decide +kernel) rfl rfl rfl (by decide +kernel)
set_option maxRecDepth 65536 in
theorem w_c2 : (Jvm.Cond.code ({ cls := "java/lang/Object", name := "<init>", desc := "()V" } : Jvm.MethodName) object_method_1_code (1 : Nat) (Option.none : Option Jvm.ClassFile.FieldType)).before args0 about1 = true := code_word (m := ⟨0, 0⟩) (meth := k0m0) (c := k0c0) (by decide +kernel) rfl rfl rfl (by decide +kernel)
set_option maxRecDepth 65536 in
theorem w_c3 : (Jvm.Cond.code ({ cls := "java/util/HashMap", name := "<init>", desc := "()V" } : Jvm.MethodName) jdk_69_method_7_code (1 : Nat) (Option.none : Option Jvm.ClassFile.FieldType)).before args0 about1 = true := code_word (m := ⟨8, 0⟩) (meth := k8m0) (c := k8c0) (by decide +kernel) rfl rfl rfl (by decide +kernel)
set_option maxRecDepth 65536 in
theorem w_c4 : (Jvm.Cond.code ({ cls := "java/util/AbstractMap", name := "<init>", desc := "()V" } : Jvm.MethodName) jdk_71_method_1_code (1 : Nat) (Option.none : Option Jvm.ClassFile.FieldType)).before args0 about1 = true := code_word (m := ⟨5, 0⟩) (meth := k5m0) (c := k5c0) (by decide +kernel) rfl rfl rfl (by decide +kernel)
set_option maxRecDepth 65536 in
theorem w_c5 : (Jvm.Cond.code ({ cls := "java/util/PriorityQueue", name := "<init>", desc := "()V" } : Jvm.MethodName) jdk_2655_method_1_code (1 : Nat) (Option.none : Option Jvm.ClassFile.FieldType)).before args0 about1 = true := code_word (m := ⟨14, 0⟩) (meth := k14m0) (c := k14c0) (by decide +kernel) rfl rfl rfl (by decide +kernel)
set_option maxRecDepth 65536 in
theorem w_c6 : (Jvm.Cond.code ({ cls := "java/util/PriorityQueue", name := "<init>", desc := "(ILjava/util/Comparator;)V" } : Jvm.MethodName) jdk_2655_method_4_code (3 : Nat) (Option.none : Option Jvm.ClassFile.FieldType)).before args0 about1 = true := code_word (m := ⟨14, 1⟩) (meth := k14m1) (c := k14c1) (by decide +kernel) rfl rfl rfl (by decide +kernel)
set_option maxRecDepth 65536 in
theorem w_c7 : (Jvm.Cond.code ({ cls := "java/util/AbstractQueue", name := "<init>", desc := "()V" } : Jvm.MethodName) jdk_2435_method_1_code (1 : Nat) (Option.none : Option Jvm.ClassFile.FieldType)).before args0 about1 = true := code_word (m := ⟨13, 0⟩) (meth := k13m0) (c := k13c0) (by decide +kernel) rfl rfl rfl (by decide +kernel)
set_option maxRecDepth 65536 in
theorem w_c8 : (Jvm.Cond.code ({ cls := "java/util/AbstractCollection", name := "<init>", desc := "()V" } : Jvm.MethodName) jdk_22_method_1_code (1 : Nat) (Option.none : Option Jvm.ClassFile.FieldType)).before args0 about1 = true := code_word (m := ⟨11, 0⟩) (meth := k11m0) (c := k11c0) (by decide +kernel) rfl rfl rfl (by decide +kernel)
set_option maxRecDepth 65536 in
theorem w_c9 : (Jvm.Cond.code ({ cls := "java/util/concurrent/TimeUnit", name := "toNanos", desc := "(J)J" } : Jvm.MethodName) jdk_2799_method_7_code (7 : Nat) (Option.some Jvm.ClassFile.FieldType.long)).before args0 about1 = true := code_word (m := ⟨18, 0⟩) (meth := k18m0) (c := k18c0) (by decide +kernel) rfl rfl rfl (by decide +kernel)
set_option maxRecDepth 65536 in
theorem w_c10 : (Jvm.Cond.code ({ cls := "java/util/ArrayList", name := "<init>", desc := "()V" } : Jvm.MethodName) jdk_38_method_2_code (1 : Nat) (Option.none : Option Jvm.ClassFile.FieldType)).before args0 about1 = true := code_word (m := ⟨23, 0⟩) (meth := k23m0) (c := k23c0) (by decide +kernel) rfl rfl rfl (by decide +kernel)
set_option maxRecDepth 65536 in
theorem w_c11 : (Jvm.Cond.code ({ cls := "java/util/AbstractList", name := "<init>", desc := "()V" } : Jvm.MethodName) jdk_39_method_1_code (1 : Nat) (Option.none : Option Jvm.ClassFile.FieldType)).before args0 about1 = true := code_word (m := ⟨21, 0⟩) (meth := k21m0) (c := k21c0) (by decide +kernel) rfl rfl rfl (by decide +kernel)
set_option maxRecDepth 65536 in
theorem w_c12 : (Jvm.Cond.code ({ cls := "com/example/epochcast/epochcast/server/SessionLeases", name := "begin", desc := "(Ljava/util/Collection;J)V" } : Jvm.MethodName) prog_190_method_2_code (6 : Nat) (Option.none : Option Jvm.ClassFile.FieldType)).before args0 about1 = true := code_word (m := ⟨3, 1⟩) (meth := k3m1) (c := k3c1) (by decide +kernel) rfl rfl rfl (by decide +kernel)
set_option maxRecDepth 65536 in
theorem w_c13 : (Jvm.Cond.code ({ cls := "com/example/epochcast/epochcast/server/SessionLeases", name := "clear", desc := "()V" } : Jvm.MethodName) prog_190_method_4_code (1 : Nat) (Option.none : Option Jvm.ClassFile.FieldType)).before args0 about1 = true := code_word (m := ⟨3, 3⟩) (meth := k3m3) (c := k3c3) (by decide +kernel) rfl rfl rfl (by decide +kernel)
set_option maxRecDepth 65536 in
theorem w_c14 : (Jvm.Cond.code ({ cls := "java/util/HashMap", name := "clear", desc := "()V" } : Jvm.MethodName) jdk_69_method_22_code (3 : Nat) (Option.none : Option Jvm.ClassFile.FieldType)).before args0 about1 = true := code_word (m := ⟨8, 1⟩) (meth := k8m1) (c := k8c1) (by decide +kernel) rfl rfl rfl (by decide +kernel)
set_option maxRecDepth 65536 in
theorem w_c15 : (Jvm.Cond.code ({ cls := "java/util/PriorityQueue", name := "clear", desc := "()V" } : Jvm.MethodName) jdk_2655_method_24_code (4 : Nat) (Option.none : Option Jvm.ClassFile.FieldType)).before args0 about1 = true := code_word (m := ⟨14, 3⟩) (meth := k14m3) (c := k14c3) (by decide +kernel) rfl rfl rfl (by decide +kernel)
set_option maxRecDepth 65536 in
theorem w_c16 : (Jvm.Cond.code ({ cls := "java/util/ArrayList", name := "iterator", desc := "()Ljava/util/Iterator;" } : Jvm.MethodName) jdk_38_method_55_code (1 : Nat) (Option.some (Jvm.ClassFile.FieldType.object "java/util/Iterator"))).before args0 about1 = true := code_word (m := ⟨23, 1⟩) (meth := k23m1) (c := k23c1) (by decide +kernel) rfl rfl rfl (by decide +kernel)
set_option maxRecDepth 65536 in
theorem w_c17 : (Jvm.Cond.code ({ cls := "java/util/ArrayList$Itr", name := "<init>", desc := "(Ljava/util/ArrayList;)V" } : Jvm.MethodName) jdk_49_method_1_code (2 : Nat) (Option.none : Option Jvm.ClassFile.FieldType)).before args0 about1 = true := code_word (m := ⟨25, 0⟩) (meth := k25m0) (c := k25c0) (by decide +kernel) rfl rfl rfl (by decide +kernel)
set_option maxRecDepth 65536 in
theorem w_c18 : (Jvm.Cond.code ({ cls := "java/util/ArrayList$Itr", name := "hasNext", desc := "()Z" } : Jvm.MethodName) jdk_49_method_2_code (1 : Nat) (Option.some Jvm.ClassFile.FieldType.boolean)).before args0 about1 = true := code_word (m := ⟨25, 1⟩) (meth := k25m1) (c := k25c1) (by decide +kernel) rfl rfl rfl (by decide +kernel)
set_option maxRecDepth 65536 in
theorem w_c19 : (Jvm.Cond.code ({ cls := "com/example/epochcast/epochcast/server/SessionLeases", name := "heartbeat", desc := "(J)V" } : Jvm.MethodName) prog_190_method_3_code (3 : Nat) (Option.none : Option Jvm.ClassFile.FieldType)).before args0 about1 = true := code_word (m := ⟨3, 2⟩) (meth := k3m2) (c := k3c2) (by decide +kernel) rfl rfl rfl (by decide +kernel)
set_option maxRecDepth 65536 in
theorem w_c20 : (Jvm.Cond.code ({ cls := "com/example/epochcast/epochcast/server/SessionLeases", name := "nextCheck", desc := "(J)J" } : Jvm.MethodName) prog_190_method_12_code (8 : Nat) (Option.some Jvm.ClassFile.FieldType.long)).before args0 about1 = true := code_word (m := ⟨3, 4⟩) (meth := k3m4) (c := k3c4) (by decide +kernel) rfl rfl rfl (by decide +kernel)
set_option maxRecDepth 65536 in
theorem w_c21 : (Jvm.Cond.code ({ cls := "com/example/epochcast/epochcast/server/SessionLeasesHeartbeatPinLaw", name := "ref", desc := "(JJJJJ)J" } : Jvm.MethodName) method_3_code (12 : Nat) (Option.some Jvm.ClassFile.FieldType.long)).before args0 about1 = true := code_word (m := ⟨1, 2⟩) (meth := k1m2) (c := k1c2) (by decide +kernel) rfl rfl rfl (by decide +kernel)
set_option maxRecDepth 65536 in
theorem w_c22 : (Jvm.Cond.code ({ cls := "java/util/PriorityQueue", name := "peek", desc := "()Ljava/lang/Object;" } : Jvm.MethodName) jdk_2655_method_15_code (1 : Nat) (Option.some (Jvm.ClassFile.FieldType.object "java/lang/Object"))).before args0 about1 = true := code_word (m := ⟨14, 2⟩) (meth := k14m2) (c := k14c2) (by decide +kernel) rfl rfl rfl (by decide +kernel)
def codes1 : List Jvm.Cond := [Jvm.Cond.code x code maxLocals ret, Jvm.Cond.code ({ cls := "com/example/epochcast/epochcast/server/SessionLeases", name := "<init>", desc := "(I)V" } : Jvm.MethodName) prog_190_method_1_code (2 : Nat) (Option.none : Option Jvm.ClassFile.FieldType), Jvm.Cond.code ({ cls := "java/lang/Object", name := "<init>", desc := "()V" } : Jvm.MethodName) object_method_1_code (1 : Nat) (Option.none : Option Jvm.ClassFile.FieldType), Jvm.Cond.code ({ cls := "java/util/HashMap", name := "<init>", desc := "()V" } : Jvm.MethodName) jdk_69_method_7_code (1 : Nat) (Option.none : Option Jvm.ClassFile.FieldType), Jvm.Cond.code ({ cls := "java/util/AbstractMap", name := "<init>", desc := "()V" } : Jvm.MethodName) jdk_71_method_1_code (1 : Nat) (Option.none : Option Jvm.ClassFile.FieldType), Jvm.Cond.code ({ cls := "java/util/PriorityQueue", name := "<init>", desc := "()V" } : Jvm.MethodName) jdk_2655_method_1_code (1 : Nat) (Option.none : Option Jvm.ClassFile.FieldType), Jvm.Cond.code ({ cls := "java/util/PriorityQueue", name := "<init>", desc := "(ILjava/util/Comparator;)V" } : Jvm.MethodName) jdk_2655_method_4_code (3 : Nat) (Option.none : Option Jvm.ClassFile.FieldType), Jvm.Cond.code ({ cls := "java/util/AbstractQueue", name := "<init>", desc := "()V" } : Jvm.MethodName) jdk_2435_method_1_code (1 : Nat) (Option.none : Option Jvm.ClassFile.FieldType), Jvm.Cond.code ({ cls := "java/util/AbstractCollection", name := "<init>", desc := "()V" } : Jvm.MethodName) jdk_22_method_1_code (1 : Nat) (Option.none : Option Jvm.ClassFile.FieldType), Jvm.Cond.code ({ cls := "java/util/concurrent/TimeUnit", name := "toNanos", desc := "(J)J" } : Jvm.MethodName) jdk_2799_method_7_code (7 : Nat) (Option.some Jvm.ClassFile.FieldType.long), Jvm.Cond.code ({ cls := "java/util/ArrayList", name := "<init>", desc := "()V" } : Jvm.MethodName) jdk_38_method_2_code (1 : Nat) (Option.none : Option Jvm.ClassFile.FieldType), Jvm.Cond.code ({ cls := "java/util/AbstractList", name := "<init>", desc := "()V" } : Jvm.MethodName) jdk_39_method_1_code (1 : Nat) (Option.none : Option Jvm.ClassFile.FieldType), Jvm.Cond.code ({ cls := "com/example/epochcast/epochcast/server/SessionLeases", name := "begin", desc := "(Ljava/util/Collection;J)V" } : Jvm.MethodName) prog_190_method_2_code (6 : Nat) (Option.none : Option Jvm.ClassFile.FieldType), Jvm.Cond.code ({ cls := "com/example/epochcast/epochcast/server/SessionLeases", name := "clear", desc := "()V" } : Jvm.MethodName) prog_190_method_4_code (1 : Nat) (Option.none : Option Jvm.ClassFile.FieldType), Jvm.Cond.code ({ cls := "java/util/HashMap", name := "clear", desc := "()V" } : Jvm.MethodName) jdk_69_method_22_code (3 : Nat) (Option.none : Option Jvm.ClassFile.FieldType), Jvm.Cond.code ({ cls := "java/util/PriorityQueue", name := "clear", desc := "()V" } : Jvm.MethodName) jdk_2655_method_24_code (4 : Nat) (Option.none : Option Jvm.ClassFile.FieldType), Jvm.Cond.code ({ cls := "java/util/ArrayList", name := "iterator", desc := "()Ljava/util/Iterator;" } : Jvm.MethodName) jdk_38_method_55_code (1 : Nat) (Option.some (Jvm.ClassFile.FieldType.object "java/util/Iterator")), Jvm.Cond.code ({ cls := "java/util/ArrayList$Itr", name := "<init>", desc := "(Ljava/util/ArrayList;)V" } : Jvm.MethodName) jdk_49_method_1_code (2 : Nat) (Option.none : Option Jvm.ClassFile.FieldType), Jvm.Cond.code ({ cls := "java/util/ArrayList$Itr", name := "hasNext", desc := "()Z" } : Jvm.MethodName) jdk_49_method_2_code (1 : Nat) (Option.some Jvm.ClassFile.FieldType.boolean), Jvm.Cond.code ({ cls := "com/example/epochcast/epochcast/server/SessionLeases", name := "heartbeat", desc := "(J)V" } : Jvm.MethodName) prog_190_method_3_code (3 : Nat) (Option.none : Option Jvm.ClassFile.FieldType), Jvm.Cond.code ({ cls := "com/example/epochcast/epochcast/server/SessionLeases", name := "nextCheck", desc := "(J)J" } : Jvm.MethodName) prog_190_method_12_code (8 : Nat) (Option.some Jvm.ClassFile.FieldType.long), Jvm.Cond.code ({ cls := "com/example/epochcast/epochcast/server/SessionLeasesHeartbeatPinLaw", name := "ref", desc := "(JJJJJ)J" } : Jvm.MethodName) method_3_code (12 : Nat) (Option.some Jvm.ClassFile.FieldType.long), Jvm.Cond.code ({ cls := "java/util/PriorityQueue", name := "peek", desc := "()Ljava/lang/Object;" } : Jvm.MethodName) jdk_2655_method_15_code (1 : Nat) (Option.some (Jvm.ClassFile.FieldType.object "java/lang/Object"))]
set_option maxRecDepth 65536 in
theorem codes_eq : words1.filter isCode = codes1 := rfl
theorem w_codes : ∀ c ∈ words1.filter isCode, c.before args0 about1 = true := by
  rw [codes_eq]
  intro c hc
  simp only [codes1, List.mem_cons, List.not_mem_nil, or_false] at hc
  rcases hc with rfl | rfl | rfl | rfl | rfl | rfl | rfl | rfl | rfl | rfl | rfl | rfl | rfl | rfl | rfl | rfl | rfl | rfl | rfl | rfl | rfl | rfl | rfl
  · exact w_c0
  · exact w_c1
  · exact w_c2
  · exact w_c3
  · exact w_c4
  · exact w_c5
  · exact w_c6
  · exact w_c7
  · exact w_c8
  · exact w_c9
  · exact w_c10
  · exact w_c11
  · exact w_c12
  · exact w_c13
  · exact w_c14
  · exact w_c15
  · exact w_c16
  · exact w_c17
  · exact w_c18
  · exact w_c19
  · exact w_c20
  · exact w_c21
  · exact w_c22
set_option maxRecDepth 65536 in
theorem w_t1 : (words1.take 24).all (fun c => isCode c || c.before args0 about1) = true := by decide +kernel
set_option maxRecDepth 65536 in
theorem w_t2 : ((words1.drop 24).take 24).all (fun c => isCode c || c.before args0 about1) = true := by decide +kernel
set_option maxRecDepth 65536 in
theorem w_t3 : (((words1.drop 24).drop 24).take 24).all (fun c => isCode c || c.before args0 about1) = true := by decide +kernel
set_option maxRecDepth 65536 in
theorem w_t4 : ((((words1.drop 24).drop 24).drop 24).take 24).all (fun c => isCode c || c.before args0 about1) = true := by decide +kernel
set_option maxRecDepth 65536 in
theorem w_t5 : (((((words1.drop 24).drop 24).drop 24).drop 24).take 24).all (fun c => isCode c || c.before args0 about1) = true := by decide +kernel
set_option maxRecDepth 65536 in
theorem w_t6 : ((((((words1.drop 24).drop 24).drop 24).drop 24).drop 24).take 24).all (fun c => isCode c || c.before args0 about1) = true := by decide +kernel
set_option maxRecDepth 65536 in
theorem w_t7 : (((((((words1.drop 24).drop 24).drop 24).drop 24).drop 24).drop 24).take 24).all (fun c => isCode c || c.before args0 about1) = true := by decide +kernel
set_option maxRecDepth 65536 in
theorem w_t8 : (((((((words1.drop 24).drop 24).drop 24).drop 24).drop 24).drop 24).drop 24).all (fun c => isCode c || c.before args0 about1) = true := by decide +kernel
theorem w_tables : (allAtoms (Jvm.Cond.code x code maxLocals ret :: tables_1)).before args0 about1 = true := by
  rw [allAtoms_all]
  show words1.all (fun c => c.before args0 about1) = true
  refine all_split ?_ w_codes
  rw [← List.take_append_drop 24 words1, List.all_append, w_t1, ← List.take_append_drop 24 (words1.drop 24), List.all_append, w_t2, ← List.take_append_drop 24 ((words1.drop 24).drop 24), List.all_append, w_t3, ← List.take_append_drop 24 (((words1.drop 24).drop 24).drop 24), List.all_append, w_t4, ← List.take_append_drop 24 ((((words1.drop 24).drop 24).drop 24).drop 24), List.all_append, w_t5, ← List.take_append_drop 24 (((((words1.drop 24).drop 24).drop 24).drop 24).drop 24), List.all_append, w_t6, ← List.take_append_drop 24 ((((((words1.drop 24).drop 24).drop 24).drop 24).drop 24).drop 24), List.all_append, w_t7, w_t8]
  rfl
set_option maxRecDepth 65536 in
theorem w_rest : rest_1_c.before args0 about1 = true := by decide +kernel
set_option maxRecDepth 65536 in
theorem w_case : (Jvm.Cond.and given_1 narrow_1).before args0 about1 = true := by decide +kernel
theorem w_applies : (headSpec (Jvm.Cond.code x code maxLocals ret :: tables_1) room_1).applies x e0.platform about1 = true :=
  (Spec.applies_iff w_frames).mpr ⟨w_running, w_runnable, w_alone, w_named, w_hears, w_ripe, w_room, w_tables⟩
theorem atStart : AtStart classFile x code maxLocals ret World_1 tables_1 room_1 Calls_1 rest_1 Pre_1 launch0 p0 e0 about1 theMethod args0 below0 :=
  ⟨lists_1, trivial, launch0.admits_env _ _ _, launch0.least_env, fairChoices_fair.cas, fairChoices_fair.clock, w_frames, w_args, w_heap, w_applies, trivial, w_rest, w_case⟩
end start1
theorem witness_1 : WitnessClaimed_1 := ⟨start1.p0, start1.e0, start1.about1, start1.theMethod, start1.args0, start1.below0, start1.atStart⟩
end Jvm.Pilot.@@N@@
