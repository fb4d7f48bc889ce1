import JvmDerived
import JvmDerived.Pilot.@@N@@Statement
import JvmDerived.Pilot.@@N@@Code
set_option linter.unusedVariables false
set_option linter.unusedSimpArgs false
namespace Jvm.RoadKit
open Sem ClassFile Op Lib Jvm.Stand Jvm.Free Jvm.LawKit
section New
variable {p : Program} {l : Launch} {e : Env} {R : Room} {s : State} {m : MethodId} {args : Array Value} {below : List Frame} {meth : Method} {c : Code} {T : State} {locs : List Loc} {cells slots : Nat}
theorem retI (X : Stand p l e R s m args below meth c T locs cells slots) (hx : p.tables.exec = Jvm.exec) {pc : Nat} {Ls : Array Slot} {z : Int32} {rest : List Value} (hret : meth.sig.returnType = some .int) (hd : decode c.code pc = .ok (.ireturn, 1)) {fs : List Frame}
    (hl : ∀ (f : JFrame) (acts : List Action), f.method = m → f.locked = none → f.entered = [] → (doReturn e (T.setTop f) acts (some (.int z))).1 = T.setFrames fs) : Steps p.tables e below (T.setTop (mkF m pc Ls (.int z :: rest))) (T.setFrames fs) := by
  have hm' : T.vm.method? m = some meth := X.method'
  have hn : narrow .int (.int z) = .int z := rfl
  show Steps p.tables e below (T.setTop { method := m, pc := pc, locals := Ls, stack := _ :: rest, locked := none }) _
  jvm_step X.here [X.here.top, hx, hd, hm', hret, hn]
  first | (intro acts; rw [hl _ acts rfl rfl rfl]) | rw [hl _ _ rfl rfl rfl]
  exact Steps.refl _
end New
end Jvm.RoadKit
namespace Jvm.Pilot.@@N@@
open Jvm Jvm.ClassFile Sem Op Lib Jvm.Free Jvm.Stand Jvm.LawKit Jvm.RoadKit Bundle Jvm.Pilot.@@N@@.Jvm.D
/-! small facts of my own -/
theorem own_fld {args : Array Value} {s : State} {t : Term} {a : Addr} {C n d : String} {k : Int32} (ev : t.eval args s none [] s = some (.ref a)) (h : (Jvm.Cond.eq (.field t C n d) (.int k)).value args s none s [] = some true) : Fld s s.heap a C n d (.int k) := by
  refine Fld.start ?_
  have h2 : (Term.field t C n d).eval args s none [] s = s.fieldOf? a C n d := by simp [Term.eval, ev]
  obtain ⟨x, y, e1, e2, k1, k2⟩ := cmp_v (Or.inl h)
  have e3 : y = .int k := (Option.some.inj e2).symm
  subst e3
  obtain ⟨z, rfl⟩ := k2
  have e4 : z = k := by simpa [Jvm.Cond.value, e1, e2] using h
  rw [← h2, e1, e4]
theorem own_leT {k : Nat} {T : State} {h : Heap} (e : T.heap = h) (hk : k ≤ h.size) : k ≤ T.heap.size := by rw [e]; exact hk
theorem own_geT {T : State} {h : Heap} (e : T.heap = h) : T.heap.size ≤ h.size := by rw [e]; exact Nat.le_refl _
theorem own_lcmp0 {x : Int64} : lcmpW x x = 0 := (lw_eq x x).mpr rfl
theorem own_lt {x j k : Int32} (h : x < j) (q : ¬ k < j) : x < k := by rw [Int32.lt_iff_toInt_lt] at *; omega
theorem own_gt {x j k : Int32} (h : j < x) (q : ¬ j < k) : k < x := by rw [Int32.lt_iff_toInt_lt] at *; omega
theorem own_nlt {x j k : Int32} (h : j < x) (q : ¬ j.toInt + 1 < k.toInt) : ¬ x < k := by rw [Int32.lt_iff_toInt_lt] at *; omega
theorem own_ngt {x j k : Int32} (h : x < j) (q : ¬ k.toInt + 1 < j.toInt) : ¬ k < x := by rw [Int32.lt_iff_toInt_lt] at *; omega
theorem own_nelo {x j k : Int32} (h : j < x) (q : ¬ j < k) : ¬ x = k := fun e => by subst e; exact q h
theorem own_nehi {x j k : Int32} (h : x < j) (q : ¬ k < j) : ¬ x = k := fun e => by subst e; exact q h
theorem own_ilt {x k : Int32} {z : Int} (e : k.toInt = z) (h : x.toInt < z) : x < k := by rw [Int32.lt_iff_toInt_lt, e]; exact h
theorem own_igt {x k : Int32} {z : Int} (e : k.toInt = z) (h : z < x.toInt) : k < x := by rw [Int32.lt_iff_toInt_lt, e]; exact h
theorem own_ne {Z : State} {h : Heap} {a b : Addr} {C n d : String} {v w : Value} (F : Fld Z h a C n d v) (G : Fld Z h b C n d w) (hn : v ≠ w) : ¬ (a = b) := fun e => by
  subst e
  obtain ⟨c1, f1, k1, i1, g1, h1, h2, -, -, -, -, h7⟩ := F
  obtain ⟨c2, f2, k2, i2, g2, j1, j2, -, -, -, -, j7⟩ := G
  cases h1.symm.trans j1
  cases h2.symm.trans j2
  exact hn (Option.some.inj (h7.symm.trans j7))

theorem own_sta_keep {Z : State} {h h' : Heap} {C n d : String} {v : Value} (F : Sta Z h C n d v) (K : Keep h h' []) : Sta Z h' C n d v := by
  obtain ⟨cf, i, k, f, st, cell, h1, h2, h3, h4, h5, r⟩ := F
  exact ⟨cf, i, k, f, st, cell, h1, h2, h3, h4, K.2.1 _ _ h5 nin0, r⟩
theorem own_sta_keep1 {Z : State} {h h' : Heap} {C n d K' : String} {v : Value} {b : Addr} (F : Sta Z h C n d v) (K : Keep h h' [b]) (E : Exa Z h b K') : Sta Z h' C n d v := by
  obtain ⟨cf, i, k, f, st, cell, h1, h2, h3, h4, h5, h6, r⟩ := F
  obtain ⟨c2, k2, e1, -, -, e4, -⟩ := E
  refine ⟨cf, i, k, f, st, cell, h1, h2, h3, h4, K.2.1 _ _ h5 (ninS (fun q => ?_) nin0), h6, r⟩
  subst q
  cases h5.symm.trans e1
  rw [h6] at e4; cases e4
section OwnArr
variable {p : Program} {l : Launch} {e : Env} {R : Room} {s : State} {m : MethodId} {args : Array Value} {below : List Frame} {meth : Method} {c : Code} {T : State} {locs : List Loc} {cells slots : Nat} {Z : State} {h : Heap}
theorem own_stI (X : Stand p l e R s m args below meth c T locs cells slots) (hx : p.tables.exec = Jvm.exec) (hZ : Z.Warmed39 s.vm) (eT : T.heap = h) {a : Addr} {k : ClassId} {z j x : Int32} {vs : List Value} {d : Value} (V : Arv Z h a k .int z vs d) (i : Nat) (hj : j.toNatClampNeg = i) (hin : ¬ j < 0 ∧ j < z) (hi : i < vs.length) {g : JFrame} (hg : g.method = m) {rest : List Value} (hs : g.stack = .int x :: .int j :: .ref a :: rest) (hd : decode c.code g.pc = .ok (.iastore, 1)) :
    ∃ T' h', Stand p l e R s m args below meth c T' (locs ++ [⟨a, j.toNatClampNeg⟩]) cells slots ∧ T'.heap = h' ∧ Wr h h' a j.toNatClampNeg (.int x) ∧ Arv Z h' a k .int z (vs.set i (.int x)) d ∧ ∀ target, Steps p.tables e below (T'.setTop { g with pc := g.pc + 1, stack := rest }) target → Steps p.tables e below (T.setTop g) target := by
  obtain ⟨cl, A, q1, S, q3, H, G⟩ := V
  obtain ⟨T', h', X', e', W, st⟩ := stI X hx hZ eT A (j := j) (inb_of S hin) hg hs hd
  exact ⟨T', h', X', e', W, Arv.set A q1 S q3 H G rfl W i hj hi, st⟩
theorem own_stR (X : Stand p l e R s m args below meth c T locs cells slots) (hx : p.tables.exec = Jvm.exec) (hZ : Z.Warmed39 s.vm) (eT : T.heap = h) {a y : Addr} {k : ClassId} {z j : Int32} {vs : List Value} {d : Value} {C : String} (V : Arv Z h a k (.object C) z vs d) (O : Ovr Z k C) (I : Ins Z h y C true) (i : Nat) (hj : j.toNatClampNeg = i) (hin : ¬ j < 0 ∧ j < z) (hi : i < vs.length) {g : JFrame} (hg : g.method = m) {rest : List Value} (hs : g.stack = .ref y :: .int j :: .ref a :: rest) (hd : decode c.code g.pc = .ok (.aastore, 1)) :
    ∃ T' h', Stand p l e R s m args below meth c T' (locs ++ [⟨a, j.toNatClampNeg⟩]) cells slots ∧ T'.heap = h' ∧ Wr h h' a j.toNatClampNeg (.ref y) ∧ Arv Z h' a k (.object C) z (vs.set i (.ref y)) d ∧ ∀ target, Steps p.tables e below (T'.setTop { g with pc := g.pc + 1, stack := rest }) target → Steps p.tables e below (T.setTop g) target := by
  obtain ⟨cl, A, q1, S, q3, H, G⟩ := V
  obtain ⟨T', h', X', e', W, st⟩ := stR X hx hZ eT A (j := j) (inb_of S hin) rfl (Sto.ofV A q1 O I) hg hs hd
  exact ⟨T', h', X', e', W, Arv.set A q1 S q3 H G rfl W i hj hi, st⟩
theorem own_ldI (X : Stand p l e R s m args below meth c T locs cells slots) (hx : p.tables.exec = Jvm.exec) (hZ : Z.Warmed39 s.vm) (eT : T.heap = h) {a : Addr} {k : ClassId} {z j : Int32} {vs : List Value} {d v : Value} (V : Arv Z h a k .int z vs d) (hin : ¬ j < 0 ∧ j < z) (hv : vs.getD j.toNatClampNeg d = v) {g : JFrame} (hg : g.method = m) {rest : List Value} (hs : g.stack = .int j :: .ref a :: rest) (hd : decode c.code g.pc = .ok (.iaload, 1)) :
    ∀ target, Steps p.tables e below (T.setTop { g with pc := g.pc + 1, stack := v :: rest }) target → Steps p.tables e below (T.setTop g) target := by
  obtain ⟨cl, A, q1, S, q3, H, G⟩ := V
  have hin' := inb_of S hin
  exact X.iaload hx (by rw [eT]; exact A.1) (State.isArrayOf_alike hZ.alike A.2.1) A.2.2 hin' (H.at hin' hv) hg hs hd
theorem own_ldR (X : Stand p l e R s m args below meth c T locs cells slots) (hx : p.tables.exec = Jvm.exec) (hZ : Z.Warmed39 s.vm) (eT : T.heap = h) {a : Addr} {k : ClassId} {z j : Int32} {vs : List Value} {d v : Value} {C : String} (V : Arv Z h a k (.object C) z vs d) (hin : ¬ j < 0 ∧ j < z) (hv : vs.getD j.toNatClampNeg d = v) {g : JFrame} (hg : g.method = m) {rest : List Value} (hs : g.stack = .int j :: .ref a :: rest) (hd : decode c.code g.pc = .ok (.aaload, 1)) :
    ∀ target, Steps p.tables e below (T.setTop { g with pc := g.pc + 1, stack := v :: rest }) target → Steps p.tables e below (T.setTop g) target := by
  obtain ⟨cl, A, q1, S, q3, H, G⟩ := V
  have hin' := inb_of S hin
  exact X.aaload hx (by rw [eT]; exact A.1) (State.isArrayOf_alike hZ.alike A.2.1) rfl A.2.2 hin' (H.at hin' hv) hg hs hd
theorem own_stC (X : Stand p l e R s m args below meth c T locs cells slots) (hx : p.tables.exec = Jvm.exec) (hZ : Z.Warmed39 s.vm) (eT : T.heap = h) {a : Addr} {k : ClassId} {z j x x' : Int32} {vs : List Value} {d : Value} (V : Arv Z h a k .char z vs d) (hx' : nar .char x = x') (i : Nat) (hj : j.toNatClampNeg = i) (hin : ¬ j < 0 ∧ j < z) (hi : i < vs.length) {g : JFrame} (hg : g.method = m) {rest : List Value} (hs : g.stack = .int x :: .int j :: .ref a :: rest) (hd : decode c.code g.pc = .ok (.castore, 1)) :
    ∃ T' h', Stand p l e R s m args below meth c T' (locs ++ [⟨a, j.toNatClampNeg⟩]) cells slots ∧ T'.heap = h' ∧ Wr h h' a j.toNatClampNeg (.int x') ∧ Arv Z h' a k .char z (vs.set i (.int x')) d ∧ ∀ target, Steps p.tables e below (T'.setTop { g with pc := g.pc + 1, stack := rest }) target → Steps p.tables e below (T.setTop g) target := by
  subst hx'
  obtain ⟨cl, A, q1, S, q3, H, G⟩ := V
  obtain ⟨T', h', X', e', W, st⟩ := stC X hx hZ eT A (j := j) (inb_of S hin) hg hs hd
  exact ⟨T', h', X', e', W, Arv.set A q1 S q3 H G (fits_nar_char _) W i hj hi, st⟩
theorem own_stB (X : Stand p l e R s m args below meth c T locs cells slots) (hx : p.tables.exec = Jvm.exec) (hZ : Z.Warmed39 s.vm) (eT : T.heap = h) {a : Addr} {k : ClassId} {z j x : Int32} {vs : List Value} {d : Value} (V : Arv Z h a k .byte z vs d) (i : Nat) (hj : j.toNatClampNeg = i) (hin : ¬ j < 0 ∧ j < z) (hi : i < vs.length) {g : JFrame} (hg : g.method = m) {rest : List Value} (hs : g.stack = .int x :: .int j :: .ref a :: rest) (hd : decode c.code g.pc = .ok (.bastore, 1)) :
    ∃ T' h', Stand p l e R s m args below meth c T' (locs ++ [⟨a, j.toNatClampNeg⟩]) cells slots ∧ T'.heap = h' ∧ Wr h h' a j.toNatClampNeg (.int (nar .byte x)) ∧ Arv Z h' a k .byte z (vs.set i (.int (nar .byte x))) d ∧ ∀ target, Steps p.tables e below (T'.setTop { g with pc := g.pc + 1, stack := rest }) target → Steps p.tables e below (T.setTop g) target := by
  obtain ⟨cl, A, q1, S, q3, H, G⟩ := V
  obtain ⟨T', h', X', e', W, st⟩ := stB X hx hZ eT A (j := j) (inb_of S hin) hg hs hd
  exact ⟨T', h', X', e', W, Arv.set A q1 S q3 H G (fits_nar_byte _) W i hj hi, st⟩
theorem own_ldC (X : Stand p l e R s m args below meth c T locs cells slots) (hx : p.tables.exec = Jvm.exec) (hZ : Z.Warmed39 s.vm) (eT : T.heap = h) {a : Addr} {k : ClassId} {z j : Int32} {vs : List Value} {d v : Value} (V : Arv Z h a k .char z vs d) (hin : ¬ j < 0 ∧ j < z) (hv : vs.getD j.toNatClampNeg d = v) {g : JFrame} (hg : g.method = m) {rest : List Value} (hs : g.stack = .int j :: .ref a :: rest) (hd : decode c.code g.pc = .ok (.caload, 1)) :
    ∀ target, Steps p.tables e below (T.setTop { g with pc := g.pc + 1, stack := v :: rest }) target → Steps p.tables e below (T.setTop g) target := by
  obtain ⟨cl, A, q1, S, q3, H, G⟩ := V
  have hin' := inb_of S hin
  exact X.caload hx (by rw [eT]; exact A.1) (State.isArrayOf_alike hZ.alike A.2.1) A.2.2 hin' (H.at hin' hv) hg hs hd
theorem own_len (X : Stand p l e R s m args below meth c T locs cells slots) (hx : p.tables.exec = Jvm.exec) (hZ : Z.Warmed39 s.vm) (eT : T.heap = h) {a : Addr} {k : ClassId} {z : Int32} {ty : FieldType} {vs : List Value} {d : Value} (V : Arv Z h a k ty z vs d) {g : JFrame} (hg : g.method = m) {rest : List Value} (hs : g.stack = .ref a :: rest) (hd : decode c.code g.pc = .ok (.arraylength, 1)) :
    ∀ target, Steps p.tables e below (T.setTop { g with pc := g.pc + 1, stack := .int z :: rest }) target → Steps p.tables e below (T.setTop g) target := by
  obtain ⟨cl, A, q1, S, q3, H, G⟩ := V
  have q := X.arraylength hx (by rw [eT]; exact A.1) (State.isArrayOf_alike hZ.alike A.2.1) hg hs hd
  rw [len_of S q3] at q
  exact q
end OwnArr
theorem own_nar {x : Int32} (h1 : (-1 : Int32) < x) (h2 : x < (256 : Int32)) : nar .char x = x := by
  have q := c_i2c x
  rw [Int32.lt_iff_toInt_lt] at h1 h2
  have e1 : (-1 : Int32).toInt = -1 := by decide
  have e2 : (256 : Int32).toInt = 256 := by decide
  apply Int32.toInt_inj.mp
  show x.toUInt32.toUInt16.toUInt32.toInt32.toInt = x.toInt
  omega

theorem own_wS {Z : State} {a0 : Array Value} (hw : ∀ d ∈ tables_1, d.before a0 Z = true) : ∀ a ∈ Bundle.stringAtoms, a.before a0 Z = true := fun d hd => by
  simp only [Bundle.stringAtoms, List.mem_cons, List.not_mem_nil, or_false] at hd
  rcases hd with rfl | rfl | rfl | rfl | rfl | rfl | rfl
  · exact hw _ (List.mem_of_getElem? (i := 13) rfl)
  · exact hw _ (List.mem_of_getElem? (i := 12) rfl)
  · exact hw _ (List.mem_of_getElem? (i := 26) rfl)
  · exact hw _ (List.mem_of_getElem? (i := 27) rfl)
  · exact hw _ (List.mem_of_getElem? (i := 28) rfl)
  · exact hw _ (List.mem_of_getElem? (i := 29) rfl)
  · exact hw _ (List.mem_of_getElem? (i := 30) rfl)
def own_EL : List (String × Nat) := [("java/lang/String", 7)]
theorem own_EW {Z : State} {a0 : Array Value} (hw : ∀ d ∈ tables_1, d.before a0 Z = true) : EW Z a0 own_EL := EW.cons (text := "") (hw _ (List.mem_of_getElem? (i := 25) rfl)) (by simp) EW.nil
theorem own_CHr {Z s T : State} {EL : List (String × Nat)} {vm1 : Vm} {h0 h1 : Heap} (hh : s.heap = h0) (e : T.heap = h1) (C : CHr Z EL s.vm h0 vm1 h1) : CHr Z EL s.vm s.heap vm1 T.heap := by rw [hh, e]; exact C
/-- a String whose bytes aren't laid yet is no booked one -/
theorem own_safe_null {Z : State} {EL : List (String × Nat)} {vm1 : Vm} {h : Heap} {y : Addr} (hal : Z.vm.Alike vm1) (F : Fld Z h y "java/lang/String" "value" "[B" .null) (E : Exa Z h y "java/lang/String") : Safe Z EL vm1 h y := fun B => by
  obtain ⟨w, -, u, a, -, q, -, S, rfl | rfl⟩ := B
  · obtain ⟨c1, cf, k, i, f, f1, f2, -, -, -, -, f7⟩ := F
    obtain ⟨cS, ⟨⟨s1, -, -, ⟨cv, kv, iv, s4, -⟩, -, -, -, s8, -⟩, -⟩, -⟩ := S
    obtain ⟨k3, e3, -⟩ := State.fieldFound?_setVm (s := Z) hal f2
    have e4 := (show (Wst Z vm1 h).fieldFound? _ _ _ = _ from e3).symm.trans s4
    simp only [Option.some.injEq, Prod.mk.injEq] at e4
    cases f1.symm.trans (show h[q.sa]? = some q.sC from s1)
    rw [e4.2.2.2, s8] at f7
    cases f7
  · obtain ⟨cell, k, e1, e2, -⟩ := E
    cases (show h[q.sd]? = some q.SA from S.hd).symm.trans e1
    obtain ⟨cS, -, -, f, -⟩ := S
    have f' : vm1.findClass "[B" = some q.SA.cls := f
    rw [hal.findClass] at f'
    obtain ⟨k1, q1, q2⟩ := Vm.findClass_spec f'
    obtain ⟨k2, q3, q4⟩ := Vm.findClass_spec e2
    cases q1.symm.trans q3
    exact absurd (q2.symm.trans q4) (by decide)

theorem d1_0 : decode method_3_code 0 = .ok (.iload_n 0, 1) := by decide +kernel
theorem d1_1 : decode method_3_code 1 = .ok (.ifCond .ne 14, 3) := by decide +kernel
theorem d1_4 : decode method_3_code 4 = .ok (.new 65, 3) := by decide +kernel
theorem d1_7 : decode method_3_code 7 = .ok (.dup, 1) := by decide +kernel
theorem d1_8 : decode method_3_code 8 = .ok (.iconst 0, 1) := by decide +kernel
theorem d1_9 : decode method_3_code 9 = .ok (.newarray .char, 2) := by decide +kernel
theorem d1_11 : decode method_3_code 11 = .ok (.invokespecial 78, 3) := by decide +kernel
theorem d2_0 : decode jdk_42_method_3_code 0 = .ok (.aload_n 0, 1) := by decide +kernel
theorem d2_1 : decode jdk_42_method_3_code 1 = .ok (.aload_n 1, 1) := by decide +kernel
theorem d2_2 : decode jdk_42_method_3_code 2 = .ok (.iconst 0, 1) := by decide +kernel
theorem d2_3 : decode jdk_42_method_3_code 3 = .ok (.aload_n 1, 1) := by decide +kernel
theorem d2_4 : decode jdk_42_method_3_code 4 = .ok (.arraylength, 1) := by decide +kernel
theorem d2_5 : decode jdk_42_method_3_code 5 = .ok (.aconst_null, 1) := by decide +kernel
theorem d2_6 : decode jdk_42_method_3_code 6 = .ok (.invokespecial 27, 3) := by decide +kernel
theorem d3_0 : decode jdk_42_method_149_code 0 = .ok (.aload_n 0, 1) := by decide +kernel
theorem d3_1 : decode jdk_42_method_149_code 1 = .ok (.invokespecial 1, 3) := by decide +kernel
theorem d3_4 : decode jdk_42_method_149_code 4 = .ok (.iload_n 3, 1) := by decide +kernel
theorem d3_5 : decode jdk_42_method_149_code 5 = .ok (.ifCond .ne 22, 3) := by decide +kernel
theorem d3_8 : decode jdk_42_method_149_code 8 = .ok (.aload_n 0, 1) := by decide +kernel
theorem d3_9 : decode jdk_42_method_149_code 9 = .ok (.ldc 7, 2) := by decide +kernel
theorem d3_11 : decode jdk_42_method_149_code 11 = .ok (.getfield 9, 3) := by decide +kernel
theorem d3_14 : decode jdk_42_method_149_code 14 = .ok (.putfield 9, 3) := by decide +kernel
theorem d3_17 : decode jdk_42_method_149_code 17 = .ok (.aload_n 0, 1) := by decide +kernel
theorem d3_18 : decode jdk_42_method_149_code 18 = .ok (.ldc 7, 2) := by decide +kernel
theorem d3_20 : decode jdk_42_method_149_code 20 = .ok (.getfield 15, 3) := by decide +kernel
theorem d3_23 : decode jdk_42_method_149_code 23 = .ok (.putfield 15, 3) := by decide +kernel
theorem d3_26 : decode jdk_42_method_149_code 26 = .ok (.return_, 1) := by decide +kernel
theorem pn_3 : plainName "java/lang/String" = true := by first | (simp [plainName, overriddenIn]; done) | decide +kernel
theorem pd___CIILjava_lang_Void__V : parseMethodDescriptor "([CIILjava/lang/Void;)V" = some ⟨[(.array .char), .int, .int, (.object "java/lang/Void")], none⟩ := by decide +kernel
theorem d2_9 : decode jdk_42_method_3_code 9 = .ok (.return_, 1) := by decide +kernel
theorem pn_2 : plainName "java/lang/String" = true := by first | (simp [plainName, overriddenIn]; done) | decide +kernel
theorem pd___C_V : parseMethodDescriptor "([C)V" = some ⟨[(.array .char)], none⟩ := by decide +kernel
theorem d1_14 : decode method_3_code 14 = .ok (.areturn, 1) := by decide +kernel
theorem pn_1 : plainName "com/example/stanza_filter/stanzafilter/engine/PrivacyItemGroupPinLaw" = true := by first | (simp [plainName, overriddenIn]; done) | decide +kernel
theorem pd__ICCC_Ljava_lang_String_ : parseMethodDescriptor "(ICCC)Ljava/lang/String;" = some ⟨[.int, .char, .char, .char], some (.object "java/lang/String")⟩ := by decide +kernel
theorem d1_15 : decode method_3_code 15 = .ok (.iload_n 0, 1) := by decide +kernel
theorem d1_16 : decode method_3_code 16 = .ok (.iconst 1, 1) := by decide +kernel
theorem d1_17 : decode method_3_code 17 = .ok (.if_icmp .ne 23, 3) := by decide +kernel
theorem d1_20 : decode method_3_code 20 = .ok (.iconst 1, 1) := by decide +kernel
theorem d1_21 : decode method_3_code 21 = .ok (.newarray .char, 2) := by decide +kernel
theorem d1_23 : decode method_3_code 23 = .ok (.astore 4, 2) := by decide +kernel
theorem d1_25 : decode method_3_code 25 = .ok (.aload 4, 2) := by decide +kernel
theorem d1_27 : decode method_3_code 27 = .ok (.iconst 0, 1) := by decide +kernel
theorem d1_28 : decode method_3_code 28 = .ok (.iload_n 1, 1) := by decide +kernel
theorem d1_29 : decode method_3_code 29 = .ok (.castore, 1) := by decide +kernel
theorem d1_30 : decode method_3_code 30 = .ok (.new 65, 3) := by decide +kernel
theorem d1_33 : decode method_3_code 33 = .ok (.dup, 1) := by decide +kernel
theorem d1_34 : decode method_3_code 34 = .ok (.aload 4, 2) := by decide +kernel
theorem d1_36 : decode method_3_code 36 = .ok (.invokespecial 78, 3) := by decide +kernel
theorem d3_27 : decode jdk_42_method_149_code 27 = .ok (.getstatic 38, 3) := by decide +kernel
theorem d3_30 : decode jdk_42_method_149_code 30 = .ok (.ifCond .eq 28, 3) := by decide +kernel
theorem d3_33 : decode jdk_42_method_149_code 33 = .ok (.aload_n 1, 1) := by decide +kernel
theorem d3_34 : decode jdk_42_method_149_code 34 = .ok (.iload_n 2, 1) := by decide +kernel
theorem d3_35 : decode jdk_42_method_149_code 35 = .ok (.iload_n 3, 1) := by decide +kernel
theorem d3_36 : decode jdk_42_method_149_code 36 = .ok (.invokestatic 177, 3) := by decide +kernel
theorem d18_0 : decode jdk_52_method_16_code 0 = .ok (.iload_n 2, 1) := by decide +kernel
theorem d18_1 : decode jdk_52_method_16_code 1 = .ok (.newarray .byte, 2) := by decide +kernel
theorem d18_3 : decode jdk_52_method_16_code 3 = .ok (.astore_n 3, 1) := by decide +kernel
theorem d18_4 : decode jdk_52_method_16_code 4 = .ok (.aload_n 0, 1) := by decide +kernel
theorem d18_5 : decode jdk_52_method_16_code 5 = .ok (.iload_n 1, 1) := by decide +kernel
theorem d18_6 : decode jdk_52_method_16_code 6 = .ok (.aload_n 3, 1) := by decide +kernel
theorem d18_7 : decode jdk_52_method_16_code 7 = .ok (.iconst 0, 1) := by decide +kernel
theorem d18_8 : decode jdk_52_method_16_code 8 = .ok (.iload_n 2, 1) := by decide +kernel
theorem d18_9 : decode jdk_52_method_16_code 9 = .ok (.invokestatic 115, 3) := by decide +kernel
theorem d19_0 : decode jdk_52_method_21_code 0 = .ok (.iconst 0, 1) := by decide +kernel
theorem d19_1 : decode jdk_52_method_21_code 1 = .ok (.istore 5, 2) := by decide +kernel
theorem d19_3 : decode jdk_52_method_21_code 3 = .ok (.iload 5, 2) := by decide +kernel
theorem d19_5 : decode jdk_52_method_21_code 5 = .ok (.iload 4, 2) := by decide +kernel
theorem d19_7 : decode jdk_52_method_21_code 7 = .ok (.if_icmp .ge 37, 3) := by decide +kernel
theorem d19_10 : decode jdk_52_method_21_code 10 = .ok (.aload_n 0, 1) := by decide +kernel
theorem d19_11 : decode jdk_52_method_21_code 11 = .ok (.iload_n 1, 1) := by decide +kernel
theorem d19_12 : decode jdk_52_method_21_code 12 = .ok (.caload, 1) := by decide +kernel
theorem d19_13 : decode jdk_52_method_21_code 13 = .ok (.istore 6, 2) := by decide +kernel
theorem d19_15 : decode jdk_52_method_21_code 15 = .ok (.iload 6, 2) := by decide +kernel
theorem d19_17 : decode jdk_52_method_21_code 17 = .ok (.sipush 255, 3) := by decide +kernel
theorem d19_20 : decode jdk_52_method_21_code 20 = .ok (.if_icmp .le 6, 3) := by decide +kernel
theorem d19_26 : decode jdk_52_method_21_code 26 = .ok (.aload_n 2, 1) := by decide +kernel
theorem d19_27 : decode jdk_52_method_21_code 27 = .ok (.iload_n 3, 1) := by decide +kernel
theorem d19_28 : decode jdk_52_method_21_code 28 = .ok (.iload 6, 2) := by decide +kernel
theorem d19_30 : decode jdk_52_method_21_code 30 = .ok (.i2b, 1) := by decide +kernel
theorem d19_31 : decode jdk_52_method_21_code 31 = .ok (.bastore, 1) := by decide +kernel
theorem d19_32 : decode jdk_52_method_21_code 32 = .ok (.iinc 1 1, 3) := by decide +kernel
theorem d19_35 : decode jdk_52_method_21_code 35 = .ok (.iinc 3 1, 3) := by decide +kernel
theorem d19_38 : decode jdk_52_method_21_code 38 = .ok (.iinc 5 1, 3) := by decide +kernel
theorem d19_41 : decode jdk_52_method_21_code 41 = .ok (.goto (-38), 3) := by decide +kernel
theorem d19_44 : decode jdk_52_method_21_code 44 = .ok (.iload 4, 2) := by decide +kernel
theorem d19_46 : decode jdk_52_method_21_code 46 = .ok (.ireturn, 1) := by decide +kernel
theorem pn_19 : plainName "java/lang/StringUTF16" = true := by first | (simp [plainName, overriddenIn]; done) | decide +kernel
theorem pd___CI_BII_I : parseMethodDescriptor "([CI[BII)I" = some ⟨[(.array .char), .int, (.array .byte), .int, .int], some .int⟩ := by decide +kernel
theorem d18_12 : decode jdk_52_method_16_code 12 = .ok (.istore 4, 2) := by decide +kernel
theorem d18_14 : decode jdk_52_method_16_code 14 = .ok (.iload 4, 2) := by decide +kernel
theorem d18_16 : decode jdk_52_method_16_code 16 = .ok (.iload_n 2, 1) := by decide +kernel
theorem d18_17 : decode jdk_52_method_16_code 17 = .ok (.if_icmp .eq 40, 3) := by decide +kernel
theorem d18_57 : decode jdk_52_method_16_code 57 = .ok (.aload_n 3, 1) := by decide +kernel
theorem d18_58 : decode jdk_52_method_16_code 58 = .ok (.areturn, 1) := by decide +kernel
theorem pn_18 : plainName "java/lang/StringUTF16" = true := by first | (simp [plainName, overriddenIn]; done) | decide +kernel
theorem pd___CII__B : parseMethodDescriptor "([CII)[B" = some ⟨[(.array .char), .int, .int], some (.array .byte)⟩ := by decide +kernel
theorem d3_39 : decode jdk_42_method_149_code 39 = .ok (.astore 5, 2) := by decide +kernel
theorem d3_41 : decode jdk_42_method_149_code 41 = .ok (.aload_n 0, 1) := by decide +kernel
theorem d3_42 : decode jdk_42_method_149_code 42 = .ok (.aload 5, 2) := by decide +kernel
theorem d3_44 : decode jdk_42_method_149_code 44 = .ok (.iload_n 3, 1) := by decide +kernel
theorem d3_45 : decode jdk_42_method_149_code 45 = .ok (.invokestatic 47, 3) := by decide +kernel
theorem d20_0 : decode jdk_52_method_15_code 0 = .ok (.iload_n 1, 1) := by decide +kernel
theorem d20_1 : decode jdk_52_method_15_code 1 = .ok (.aload_n 0, 1) := by decide +kernel
theorem d20_2 : decode jdk_52_method_15_code 2 = .ok (.arraylength, 1) := by decide +kernel
theorem d20_3 : decode jdk_52_method_15_code 3 = .ok (.isub, 1) := by decide +kernel
theorem d20_4 : decode jdk_52_method_15_code 4 = .ok (.bipush 31, 2) := by decide +kernel
theorem d20_6 : decode jdk_52_method_15_code 6 = .ok (.iushr, 1) := by decide +kernel
theorem d20_7 : decode jdk_52_method_15_code 7 = .ok (.i2b, 1) := by decide +kernel
theorem d20_8 : decode jdk_52_method_15_code 8 = .ok (.ireturn, 1) := by decide +kernel
theorem pn_20 : plainName "java/lang/StringUTF16" = true := by first | (simp [plainName, overriddenIn]; done) | decide +kernel
theorem pd___BI_B : parseMethodDescriptor "([BI)B" = some ⟨[(.array .byte), .int], some .byte⟩ := by decide +kernel
theorem d3_48 : decode jdk_42_method_149_code 48 = .ok (.putfield 15, 3) := by decide +kernel
theorem d3_51 : decode jdk_42_method_149_code 51 = .ok (.aload_n 0, 1) := by decide +kernel
theorem d3_52 : decode jdk_42_method_149_code 52 = .ok (.aload 5, 2) := by decide +kernel
theorem d3_54 : decode jdk_42_method_149_code 54 = .ok (.putfield 9, 3) := by decide +kernel
theorem d3_57 : decode jdk_42_method_149_code 57 = .ok (.return_, 1) := by decide +kernel
theorem d1_39 : decode method_3_code 39 = .ok (.areturn, 1) := by decide +kernel
theorem d1_40 : decode method_3_code 40 = .ok (.iload_n 0, 1) := by decide +kernel
theorem d1_41 : decode method_3_code 41 = .ok (.iconst 2, 1) := by decide +kernel
theorem d1_42 : decode method_3_code 42 = .ok (.if_icmp .ne 28, 3) := by decide +kernel
theorem d1_45 : decode method_3_code 45 = .ok (.iconst 2, 1) := by decide +kernel
theorem d1_46 : decode method_3_code 46 = .ok (.newarray .char, 2) := by decide +kernel
theorem d1_48 : decode method_3_code 48 = .ok (.astore 4, 2) := by decide +kernel
theorem d1_50 : decode method_3_code 50 = .ok (.aload 4, 2) := by decide +kernel
theorem d1_52 : decode method_3_code 52 = .ok (.iconst 0, 1) := by decide +kernel
theorem d1_53 : decode method_3_code 53 = .ok (.iload_n 1, 1) := by decide +kernel
theorem d1_54 : decode method_3_code 54 = .ok (.castore, 1) := by decide +kernel
theorem d1_55 : decode method_3_code 55 = .ok (.aload 4, 2) := by decide +kernel
theorem d1_57 : decode method_3_code 57 = .ok (.iconst 1, 1) := by decide +kernel
theorem d1_58 : decode method_3_code 58 = .ok (.iload_n 2, 1) := by decide +kernel
theorem d1_59 : decode method_3_code 59 = .ok (.castore, 1) := by decide +kernel
theorem d1_60 : decode method_3_code 60 = .ok (.new 65, 3) := by decide +kernel
theorem d1_63 : decode method_3_code 63 = .ok (.dup, 1) := by decide +kernel
theorem d1_64 : decode method_3_code 64 = .ok (.aload 4, 2) := by decide +kernel
theorem d1_66 : decode method_3_code 66 = .ok (.invokespecial 78, 3) := by decide +kernel
theorem d1_69 : decode method_3_code 69 = .ok (.areturn, 1) := by decide +kernel
theorem d1_70 : decode method_3_code 70 = .ok (.iconst 3, 1) := by decide +kernel
theorem d1_71 : decode method_3_code 71 = .ok (.newarray .char, 2) := by decide +kernel
theorem d1_73 : decode method_3_code 73 = .ok (.astore 4, 2) := by decide +kernel
theorem d1_75 : decode method_3_code 75 = .ok (.aload 4, 2) := by decide +kernel
theorem d1_77 : decode method_3_code 77 = .ok (.iconst 0, 1) := by decide +kernel
theorem d1_78 : decode method_3_code 78 = .ok (.iload_n 1, 1) := by decide +kernel
theorem d1_79 : decode method_3_code 79 = .ok (.castore, 1) := by decide +kernel
theorem d1_80 : decode method_3_code 80 = .ok (.aload 4, 2) := by decide +kernel
theorem d1_82 : decode method_3_code 82 = .ok (.iconst 1, 1) := by decide +kernel
theorem d1_83 : decode method_3_code 83 = .ok (.iload_n 2, 1) := by decide +kernel
theorem d1_84 : decode method_3_code 84 = .ok (.castore, 1) := by decide +kernel
theorem d1_85 : decode method_3_code 85 = .ok (.aload 4, 2) := by decide +kernel
theorem d1_87 : decode method_3_code 87 = .ok (.iconst 2, 1) := by decide +kernel
theorem d1_88 : decode method_3_code 88 = .ok (.iload_n 3, 1) := by decide +kernel
theorem d1_89 : decode method_3_code 89 = .ok (.castore, 1) := by decide +kernel
theorem d1_90 : decode method_3_code 90 = .ok (.new 65, 3) := by decide +kernel
theorem d1_93 : decode method_3_code 93 = .ok (.dup, 1) := by decide +kernel
theorem d1_94 : decode method_3_code 94 = .ok (.aload 4, 2) := by decide +kernel
theorem d1_96 : decode method_3_code 96 = .ok (.invokespecial 78, 3) := by decide +kernel
theorem d1_99 : decode method_3_code 99 = .ok (.areturn, 1) := by decide +kernel
theorem d5_0 : decode prog_9_method_3_code 0 = .ok (.new 15, 3) := by decide +kernel
theorem d5_3 : decode prog_9_method_3_code 3 = .ok (.dup, 1) := by decide +kernel
theorem d5_4 : decode prog_9_method_3_code 4 = .ok (.aconst_null, 1) := by decide +kernel
theorem d5_5 : decode prog_9_method_3_code 5 = .ok (.aload_n 0, 1) := by decide +kernel
theorem d5_6 : decode prog_9_method_3_code 6 = .ok (.ldc 51, 2) := by decide +kernel
theorem d5_8 : decode prog_9_method_3_code 8 = .ok (.invokestatic 9, 3) := by decide +kernel
theorem d6_0 : decode jdk_31_method_11_code 0 = .ok (.aload_n 0, 1) := by decide +kernel
theorem d6_1 : decode jdk_31_method_11_code 1 = .ok (.ifnonnull 12, 3) := by decide +kernel
theorem d6_13 : decode jdk_31_method_11_code 13 = .ok (.aload_n 0, 1) := by decide +kernel
theorem d6_14 : decode jdk_31_method_11_code 14 = .ok (.areturn, 1) := by decide +kernel
theorem pn_6 : plainName "java/util/Objects" = true := by first | (simp [plainName, overriddenIn]; done) | decide +kernel
theorem pd__Ljava_lang_Object_Ljava_lang_String__Ljava_lang_Object_ : parseMethodDescriptor "(Ljava/lang/Object;Ljava/lang/String;)Ljava/lang/Object;" = some ⟨[(.object "java/lang/Object"), (.object "java/lang/String")], some (.object "java/lang/Object")⟩ := by decide +kernel
theorem d5_11 : decode prog_9_method_3_code 11 = .ok (.checkcast 64, 3) := by decide +kernel
theorem d5_14 : decode prog_9_method_3_code 14 = .ok (.aconst_null, 1) := by decide +kernel
theorem d5_15 : decode prog_9_method_3_code 15 = .ok (.aload_n 1, 1) := by decide +kernel
theorem d5_16 : decode prog_9_method_3_code 16 = .ok (.lload_n 2, 1) := by decide +kernel
theorem d5_17 : decode prog_9_method_3_code 17 = .ok (.invokestatic 55, 3) := by decide +kernel
theorem d7_0 : decode jdk_96_method_17_code 0 = .ok (.getstatic 9, 3) := by decide +kernel
theorem d7_3 : decode jdk_96_method_17_code 3 = .ok (.areturn, 1) := by decide +kernel
theorem pn_7 : plainName "java/util/Set" = true := by first | (simp [plainName, overriddenIn]; done) | decide +kernel
theorem pd___Ljava_util_Set_ : parseMethodDescriptor "()Ljava/util/Set;" = some ⟨[], some (.object "java/util/Set")⟩ := by decide +kernel
theorem d5_20 : decode prog_9_method_3_code 20 = .ok (.invokespecial 61, 3) := by decide +kernel
theorem d8_0 : decode prog_9_method_1_code 0 = .ok (.aload_n 0, 1) := by decide +kernel
theorem d8_1 : decode prog_9_method_1_code 1 = .ok (.invokespecial 1, 3) := by decide +kernel
theorem d8_4 : decode prog_9_method_1_code 4 = .ok (.aload 4, 2) := by decide +kernel
theorem d8_6 : decode prog_9_method_1_code 6 = .ok (.ldc 7, 2) := by decide +kernel
theorem d8_8 : decode prog_9_method_1_code 8 = .ok (.invokestatic 9, 3) := by decide +kernel
theorem d8_11 : decode prog_9_method_1_code 11 = .ok (.pop, 1) := by decide +kernel
theorem d8_12 : decode prog_9_method_1_code 12 = .ok (.lload 5, 2) := by decide +kernel
theorem d8_14 : decode prog_9_method_1_code 14 = .ok (.lconst 0, 1) := by decide +kernel
theorem d8_15 : decode prog_9_method_1_code 15 = .ok (.lcmp, 1) := by decide +kernel
theorem d8_16 : decode prog_9_method_1_code 16 = .ok (.ifCond .lt 12, 3) := by decide +kernel
theorem d8_19 : decode prog_9_method_1_code 19 = .ok (.lload 5, 2) := by decide +kernel
theorem d8_21 : decode prog_9_method_1_code 21 = .ok (.ldc2_w 17, 3) := by decide +kernel
theorem d8_24 : decode prog_9_method_1_code 24 = .ok (.lcmp, 1) := by decide +kernel
theorem d8_25 : decode prog_9_method_1_code 25 = .ok (.ifCond .le 18, 3) := by decide +kernel
theorem d8_43 : decode prog_9_method_1_code 43 = .ok (.aload_n 0, 1) := by decide +kernel
theorem d8_44 : decode prog_9_method_1_code 44 = .ok (.aload_n 1, 1) := by decide +kernel
theorem d8_45 : decode prog_9_method_1_code 45 = .ok (.putfield 28, 3) := by decide +kernel
theorem d8_48 : decode prog_9_method_1_code 48 = .ok (.aload_n 0, 1) := by decide +kernel
theorem d8_49 : decode prog_9_method_1_code 49 = .ok (.aload_n 2, 1) := by decide +kernel
theorem d8_50 : decode prog_9_method_1_code 50 = .ok (.putfield 32, 3) := by decide +kernel
theorem d8_53 : decode prog_9_method_1_code 53 = .ok (.aload_n 0, 1) := by decide +kernel
theorem d8_54 : decode prog_9_method_1_code 54 = .ok (.aload_n 3, 1) := by decide +kernel
theorem d8_55 : decode prog_9_method_1_code 55 = .ok (.putfield 36, 3) := by decide +kernel
theorem d8_58 : decode prog_9_method_1_code 58 = .ok (.aload_n 0, 1) := by decide +kernel
theorem d8_59 : decode prog_9_method_1_code 59 = .ok (.aload 4, 2) := by decide +kernel
theorem d8_61 : decode prog_9_method_1_code 61 = .ok (.putfield 40, 3) := by decide +kernel
theorem d8_64 : decode prog_9_method_1_code 64 = .ok (.aload_n 0, 1) := by decide +kernel
theorem d8_65 : decode prog_9_method_1_code 65 = .ok (.lload 5, 2) := by decide +kernel
theorem d8_67 : decode prog_9_method_1_code 67 = .ok (.putfield 43, 3) := by decide +kernel
theorem d8_70 : decode prog_9_method_1_code 70 = .ok (.aload_n 0, 1) := by decide +kernel
theorem d8_71 : decode prog_9_method_1_code 71 = .ok (.aload 7, 2) := by decide +kernel
theorem d8_73 : decode prog_9_method_1_code 73 = .ok (.putfield 47, 3) := by decide +kernel
theorem d8_76 : decode prog_9_method_1_code 76 = .ok (.return_, 1) := by decide +kernel
theorem pn_8 : plainName "com/example/stanza_filter/stanzafilter/engine/PrivacyItem" = true := by first | (simp [plainName, overriddenIn]; done) | decide +kernel
theorem pd__Lcom_example_stanza_filter_stanzafilter_engine_Jid_Ljava_lang_String_Lcom_example_stanza_filter_stanzafilter_engine_Subscription_Lcom_example_stanza_filter_stanzafilter_engine_Action_JLjava_util_Set__V : parseMethodDescriptor "(Lcom/example/stanza_filter/stanzafilter/engine/Jid;Ljava/lang/String;Lcom/example/stanza_filter/stanzafilter/engine/Subscription;Lcom/example/stanza_filter/stanzafilter/engine/Action;JLjava/util/Set;)V" = some ⟨[(.object "com/example/stanza_filter/stanzafilter/engine/Jid"), (.object "java/lang/String"), (.object "com/example/stanza_filter/stanzafilter/engine/Subscription"), (.object "com/example/stanza_filter/stanzafilter/engine/Action"), .long, (.object "java/util/Set")], none⟩ := by decide +kernel
theorem d5_23 : decode prog_9_method_3_code 23 = .ok (.areturn, 1) := by decide +kernel
theorem pn_5 : plainName "com/example/stanza_filter/stanzafilter/engine/PrivacyItem" = true := by first | (simp [plainName, overriddenIn]; done) | decide +kernel
theorem pd__Ljava_lang_String_Lcom_example_stanza_filter_stanzafilter_engine_Action_J_Lcom_example_stanza_filter_stanzafilter_engine_PrivacyItem_ : parseMethodDescriptor "(Ljava/lang/String;Lcom/example/stanza_filter/stanzafilter/engine/Action;J)Lcom/example/stanza_filter/stanzafilter/engine/PrivacyItem;" = some ⟨[(.object "java/lang/String"), (.object "com/example/stanza_filter/stanzafilter/engine/Action"), .long], some (.object "com/example/stanza_filter/stanzafilter/engine/PrivacyItem")⟩ := by decide +kernel
theorem d9_0 : decode prog_9_method_13_code 0 = .ok (.aload_n 0, 1) := by decide +kernel
theorem d9_1 : decode prog_9_method_13_code 1 = .ok (.getfield 43, 3) := by decide +kernel
theorem d9_4 : decode prog_9_method_13_code 4 = .ok (.lreturn, 1) := by decide +kernel
theorem pn_9 : plainName "com/example/stanza_filter/stanzafilter/engine/PrivacyItem" = true := by first | (simp [plainName, overriddenIn]; done) | decide +kernel
theorem pd___J : parseMethodDescriptor "()J" = some ⟨[], some .long⟩ := by decide +kernel
theorem d10_0 : decode prog_9_method_12_code 0 = .ok (.aload_n 0, 1) := by decide +kernel
theorem d10_1 : decode prog_9_method_12_code 1 = .ok (.getfield 40, 3) := by decide +kernel
theorem d10_4 : decode prog_9_method_12_code 4 = .ok (.areturn, 1) := by decide +kernel
theorem pn_10 : plainName "com/example/stanza_filter/stanzafilter/engine/PrivacyItem" = true := by first | (simp [plainName, overriddenIn]; done) | decide +kernel
theorem pd___Lcom_example_stanza_filter_stanzafilter_engine_Action_ : parseMethodDescriptor "()Lcom/example/stanza_filter/stanzafilter/engine/Action;" = some ⟨[], some (.object "com/example/stanza_filter/stanzafilter/engine/Action")⟩ := by decide +kernel
theorem d11_0 : decode prog_9_method_9_code 0 = .ok (.aload_n 0, 1) := by decide +kernel
theorem d11_1 : decode prog_9_method_9_code 1 = .ok (.getfield 28, 3) := by decide +kernel
theorem d11_4 : decode prog_9_method_9_code 4 = .ok (.areturn, 1) := by decide +kernel
theorem pn_11 : plainName "com/example/stanza_filter/stanzafilter/engine/PrivacyItem" = true := by first | (simp [plainName, overriddenIn]; done) | decide +kernel
theorem pd___Lcom_example_stanza_filter_stanzafilter_engine_Jid_ : parseMethodDescriptor "()Lcom/example/stanza_filter/stanzafilter/engine/Jid;" = some ⟨[], some (.object "com/example/stanza_filter/stanzafilter/engine/Jid")⟩ := by decide +kernel
theorem d12_0 : decode prog_9_method_11_code 0 = .ok (.aload_n 0, 1) := by decide +kernel
theorem d12_1 : decode prog_9_method_11_code 1 = .ok (.getfield 36, 3) := by decide +kernel
theorem d12_4 : decode prog_9_method_11_code 4 = .ok (.areturn, 1) := by decide +kernel
theorem pn_12 : plainName "com/example/stanza_filter/stanzafilter/engine/PrivacyItem" = true := by first | (simp [plainName, overriddenIn]; done) | decide +kernel
theorem pd___Lcom_example_stanza_filter_stanzafilter_engine_Subscription_ : parseMethodDescriptor "()Lcom/example/stanza_filter/stanzafilter/engine/Subscription;" = some ⟨[], some (.object "com/example/stanza_filter/stanzafilter/engine/Subscription")⟩ := by decide +kernel
theorem d13_0 : decode prog_9_method_10_code 0 = .ok (.aload_n 0, 1) := by decide +kernel
theorem d13_1 : decode prog_9_method_10_code 1 = .ok (.getfield 32, 3) := by decide +kernel
theorem d13_4 : decode prog_9_method_10_code 4 = .ok (.areturn, 1) := by decide +kernel
theorem pn_13 : plainName "com/example/stanza_filter/stanzafilter/engine/PrivacyItem" = true := by first | (simp [plainName, overriddenIn]; done) | decide +kernel
theorem pd___Ljava_lang_String_ : parseMethodDescriptor "()Ljava/lang/String;" = some ⟨[], some (.object "java/lang/String")⟩ := by decide +kernel
theorem d14_0 : decode jdk_42_method_66_code 0 = .ok (.aload_n 0, 1) := by decide +kernel
theorem d14_1 : decode jdk_42_method_66_code 1 = .ok (.aload_n 1, 1) := by decide +kernel
theorem d14_2 : decode jdk_42_method_66_code 2 = .ok (.if_acmp .ne 5, 3) := by decide +kernel
theorem d14_5 : decode jdk_42_method_66_code 5 = .ok (.iconst 1, 1) := by decide +kernel
theorem d14_6 : decode jdk_42_method_66_code 6 = .ok (.ireturn, 1) := by decide +kernel
theorem pn_14 : plainName "java/lang/String" = true := by first | (simp [plainName, overriddenIn]; done) | decide +kernel
theorem pd__Ljava_lang_Object__Z : parseMethodDescriptor "(Ljava/lang/Object;)Z" = some ⟨[(.object "java/lang/Object")], some .boolean⟩ := by decide +kernel
theorem d15_0 : decode prog_9_method_15_code 0 = .ok (.aload_n 0, 1) := by decide +kernel
theorem d15_1 : decode prog_9_method_15_code 1 = .ok (.getfield 47, 3) := by decide +kernel
theorem d15_4 : decode prog_9_method_15_code 4 = .ok (.invokeinterface 91 1, 5) := by decide +kernel
theorem d16_0 : decode jdk_132_method_3_code 0 = .ok (.aload_n 0, 1) := by decide +kernel
theorem d16_1 : decode jdk_132_method_3_code 1 = .ok (.getfield 9, 3) := by decide +kernel
theorem d16_4 : decode jdk_132_method_3_code 4 = .ok (.ifCond .ne 7, 3) := by decide +kernel
theorem d16_7 : decode jdk_132_method_3_code 7 = .ok (.iconst 1, 1) := by decide +kernel
theorem d16_8 : decode jdk_132_method_3_code 8 = .ok (.goto 4, 3) := by decide +kernel
theorem d16_12 : decode jdk_132_method_3_code 12 = .ok (.ireturn, 1) := by decide +kernel
theorem pn_16 : plainName "java/util/ImmutableCollections$SetN" = true := by first | (simp [plainName, overriddenIn]; done) | decide +kernel
theorem pd___Z : parseMethodDescriptor "()Z" = some ⟨[], some .boolean⟩ := by decide +kernel
theorem d15_9 : decode prog_9_method_15_code 9 = .ok (.ifCond .ne 16, 3) := by decide +kernel
theorem d15_25 : decode prog_9_method_15_code 25 = .ok (.iconst 1, 1) := by decide +kernel
theorem d15_26 : decode prog_9_method_15_code 26 = .ok (.goto 4, 3) := by decide +kernel
theorem d15_30 : decode prog_9_method_15_code 30 = .ok (.ireturn, 1) := by decide +kernel
theorem pn_15 : plainName "com/example/stanza_filter/stanzafilter/engine/PrivacyItem" = true := by first | (simp [plainName, overriddenIn]; done) | decide +kernel
theorem pd__Lcom_example_stanza_filter_stanzafilter_engine_Scope__Z : parseMethodDescriptor "(Lcom/example/stanza_filter/stanzafilter/engine/Scope;)Z" = some ⟨[(.object "com/example/stanza_filter/stanzafilter/engine/Scope")], some .boolean⟩ := by decide +kernel
theorem d17_0 : decode prog_9_method_8_code 0 = .ok (.aload_n 0, 1) := by decide +kernel
theorem d17_1 : decode prog_9_method_8_code 1 = .ok (.getfield 28, 3) := by decide +kernel
theorem d17_4 : decode prog_9_method_8_code 4 = .ok (.ifnull 29, 3) := by decide +kernel
theorem d17_33 : decode prog_9_method_8_code 33 = .ok (.iconst 0, 1) := by decide +kernel
theorem d17_34 : decode prog_9_method_8_code 34 = .ok (.ireturn, 1) := by decide +kernel
theorem pn_17 : plainName "com/example/stanza_filter/stanzafilter/engine/PrivacyItem" = true := by first | (simp [plainName, overriddenIn]; done) | decide +kernel
theorem pn_0 : plainName "com/example/stanza_filter/stanzafilter/engine/PrivacyItemGroupPinLaw" = true := by first | (simp [plainName, overriddenIn]; done) | decide +kernel
theorem own_split2 {x : Int32} (h0 : 0 ≤ x.toInt) (h1 : x.toInt < 2) : x = (0 : Int32) ∨ x = (1 : Int32) := by
  have h : x.toInt = 0 ∨ x.toInt = 1 := by omega
  rcases h with h | h
  · exact Or.inl (Int32.toInt_inj.mp (h.trans (by decide)))
  · exact Or.inr (Int32.toInt_inj.mp (h.trans (by decide)))
theorem own_split4 {x : Int32} (h0 : 0 ≤ x.toInt) (h1 : x.toInt < 4) : x = (0 : Int32) ∨ x = (1 : Int32) ∨ x = (2 : Int32) ∨ x = (3 : Int32) := by
  have h : x.toInt = 0 ∨ x.toInt = 1 ∨ x.toInt = 2 ∨ x.toInt = 3 := by omega
  rcases h with h | h | h | h
  · exact Or.inl (Int32.toInt_inj.mp (h.trans (by decide)))
  · exact Or.inr (Or.inl (Int32.toInt_inj.mp (h.trans (by decide))))
  · exact Or.inr (Or.inr (Or.inl (Int32.toInt_inj.mp (h.trans (by decide)))))
  · exact Or.inr (Or.inr (Or.inr (Int32.toInt_inj.mp (h.trans (by decide)))))
set_option maxRecDepth 65536 in
set_option maxHeartbeats 40000000 in
theorem pc0_A0 {p : Program} {l : Launch} {e : Env} {s : State} {m : MethodId} {args : Array Value} {below : List Frame} {meth : Method} {c : Code} {T0 : State} {locs : List Loc} {Z : State} {a0 : Array Value} {h0 : Heap} {n0 : Nat} (q1 : Int64) (p2 : Int32) (p3 : Int32) (p4 : Int32) (p5 : Int32) (ord : Int64) (w_ALLOW : Addr)
    (X0 : Stand p l e room_1 s m args below meth c T0 locs 0 0) (hx : p.tables.exec = Jvm.exec) (hZ : Z.Warmed39 s.vm) (hw : ∀ d ∈ tables_1, d.before a0 Z = true) (hby : c.code = code) (hml : c.maxLocals = 17) (hown : s.vm.findClass "com/example/stanza_filter/stanzafilter/engine/PrivacyItemGroupPinLaw" = some m.cls) (e0 : T0.heap = h0) (Z0 : n0 ≤ h0.size) (N0 : Fr n0 locs) (hord : (q1 &&& (4294967295 : Int64)) = ord) (hs1 : (p2 &&& (1 : Int32)) = (0 : Int32)) (S_ALLOW : Sta Z h0 "com/example/stanza_filter/stanzafilter/engine/Action" "ALLOW" "Lcom/example/stanza_filter/stanzafilter/engine/Action;" (.ref w_ALLOW)) :
    ∃ (T' : State), Stand p l e room_1 s m args below meth c T' locs 0 0 ∧ T'.heap = h0 ∧ ∀ target, Steps p.tables e below (T'.setTop (mkF m 24 #[.val (.long q1), .second, .val (.int p2), .val (.int p3), .val (.int p4), .val (.int p5), .val (.long ord), .second, .val (.ref w_ALLOW), .unset, .unset, .unset, .unset, .unset, .unset, .unset, .unset] [])) target → Steps p.tables e below (T0.setTop (mkF m 0 #[.val (.long q1), .second, .val (.int p2), .val (.int p3), .val (.int p4), .val (.int p5), .unset, .unset, .unset, .unset, .unset, .unset, .unset, .unset, .unset, .unset, .unset] [])) target := by
  obtain ⟨T1, X1, e1, st1⟩ := getS2 X0 hx hZ hown (host := "") (Or.inl (hw _ (List.mem_of_getElem? (i := 1) rfl))) Via.refl e0 S_ALLOW (g := (mkF m 13 #[.val (.long q1), .second, .val (.int p2), .val (.int p3), .val (.int p4), .val (.int p5), .val (.long ord), .second, .unset, .unset, .unset, .unset, .unset, .unset, .unset, .unset, .unset] [])) rfl (hb hby at_13)
  refine ⟨T1, X1, e1, fun target kt => ?_⟩
  show Steps p.tables e below (T0.setTop (mkF m 0 #[.val (.long q1), .second, .val (.int p2), .val (.int p3), .val (.int p4), .val (.int p5), .unset, .unset, .unset, .unset, .unset, .unset, .unset, .unset, .unset, .unset, .unset] [])) _
  refine XS.lloadN X0.here hx rfl (hb hby at_0) rfl ?_
  show Steps p.tables e below (T0.setTop (mkF m 1 #[.val (.long q1), .second, .val (.int p2), .val (.int p3), .val (.int p4), .val (.int p5), .unset, .unset, .unset, .unset, .unset, .unset, .unset, .unset, .unset, .unset, .unset] [(.long q1)])) _
  refine X0.ldc2Long hx hown (mvT hZ (hw _ (List.mem_of_getElem? (i := 0) rfl))) (g := (mkF m 1 #[.val (.long q1), .second, .val (.int p2), .val (.int p3), .val (.int p4), .val (.int p5), .unset, .unset, .unset, .unset, .unset, .unset, .unset, .unset, .unset, .unset, .unset] [(.long q1)])) rfl (hb hby at_1) _ ?_
  show Steps p.tables e below (T0.setTop (mkF m 4 #[.val (.long q1), .second, .val (.int p2), .val (.int p3), .val (.int p4), .val (.int p5), .unset, .unset, .unset, .unset, .unset, .unset, .unset, .unset, .unset, .unset, .unset] [(.long 4294967295), (.long q1)])) _
  refine XS.land X0.here hx rfl (hb hby at_4) rfl ?_
  show Steps p.tables e below (T0.setTop (mkF m 5 #[.val (.long q1), .second, .val (.int p2), .val (.int p3), .val (.int p4), .val (.int p5), .unset, .unset, .unset, .unset, .unset, .unset, .unset, .unset, .unset, .unset, .unset] [(.long (q1 &&& (4294967295 : Int64)))])) _
  rw [hord]
  show Steps p.tables e below (T0.setTop (mkF m 5 #[.val (.long q1), .second, .val (.int p2), .val (.int p3), .val (.int p4), .val (.int p5), .unset, .unset, .unset, .unset, .unset, .unset, .unset, .unset, .unset, .unset, .unset] [(.long ord)])) _
  refine XS.lstore X0.here hx rfl (hb hby at_5) rfl (l' := #[.val (.long q1), .second, .val (.int p2), .val (.int p3), .val (.int p4), .val (.int p5), .val (.long ord), .second, .unset, .unset, .unset, .unset, .unset, .unset, .unset, .unset, .unset]) rfl ?_
  show Steps p.tables e below (T0.setTop (mkF m 7 #[.val (.long q1), .second, .val (.int p2), .val (.int p3), .val (.int p4), .val (.int p5), .val (.long ord), .second, .unset, .unset, .unset, .unset, .unset, .unset, .unset, .unset, .unset] [])) _
  refine XS.iloadN X0.here hx rfl (hb hby at_7) rfl ?_
  show Steps p.tables e below (T0.setTop (mkF m 8 #[.val (.long q1), .second, .val (.int p2), .val (.int p3), .val (.int p4), .val (.int p5), .val (.long ord), .second, .unset, .unset, .unset, .unset, .unset, .unset, .unset, .unset, .unset] [(.int p2)])) _
  refine XS.iconst X0.here hx rfl (hb hby at_8) ?_
  show Steps p.tables e below (T0.setTop (mkF m 9 #[.val (.long q1), .second, .val (.int p2), .val (.int p3), .val (.int p4), .val (.int p5), .val (.long ord), .second, .unset, .unset, .unset, .unset, .unset, .unset, .unset, .unset, .unset] [(.int 1), (.int p2)])) _
  refine XS.iand X0.here hx rfl (hb hby at_9) rfl ?_
  show Steps p.tables e below (T0.setTop (mkF m 10 #[.val (.long q1), .second, .val (.int p2), .val (.int p3), .val (.int p4), .val (.int p5), .val (.long ord), .second, .unset, .unset, .unset, .unset, .unset, .unset, .unset, .unset, .unset] [(.int (p2 &&& (1 : Int32)))])) _
  rw [hs1]
  show Steps p.tables e below (T0.setTop (mkF m 10 #[.val (.long q1), .second, .val (.int p2), .val (.int p3), .val (.int p4), .val (.int p5), .val (.long ord), .second, .unset, .unset, .unset, .unset, .unset, .unset, .unset, .unset, .unset] [(.int 0)])) _
  refine XS.ifNo X0.here hx rfl (hb hby at_10) rfl ((if0 _ _).trans (teq (by decide : (0 : Int32) = (0 : Int32))).2) ?_
  show Steps p.tables e below (T0.setTop (mkF m 13 #[.val (.long q1), .second, .val (.int p2), .val (.int p3), .val (.int p4), .val (.int p5), .val (.long ord), .second, .unset, .unset, .unset, .unset, .unset, .unset, .unset, .unset, .unset] [])) _
  refine st1 _ ?_
  show Steps p.tables e below (T1.setTop (mkF m 16 #[.val (.long q1), .second, .val (.int p2), .val (.int p3), .val (.int p4), .val (.int p5), .val (.long ord), .second, .unset, .unset, .unset, .unset, .unset, .unset, .unset, .unset, .unset] [(.ref w_ALLOW)])) _
  refine XS.goto X1.here hx rfl (pc0 := 16) (pc' := 22) rfl (hb hby at_16) (by decide) (by decide) ?_
  show Steps p.tables e below (T1.setTop (mkF m 22 #[.val (.long q1), .second, .val (.int p2), .val (.int p3), .val (.int p4), .val (.int p5), .val (.long ord), .second, .unset, .unset, .unset, .unset, .unset, .unset, .unset, .unset, .unset] [(.ref w_ALLOW)])) _
  refine XS.astore X1.here hx rfl (hb hby at_22) rfl rfl (l' := #[.val (.long q1), .second, .val (.int p2), .val (.int p3), .val (.int p4), .val (.int p5), .val (.long ord), .second, .val (.ref w_ALLOW), .unset, .unset, .unset, .unset, .unset, .unset, .unset, .unset]) rfl ?_
  show Steps p.tables e below (T1.setTop (mkF m 24 #[.val (.long q1), .second, .val (.int p2), .val (.int p3), .val (.int p4), .val (.int p5), .val (.long ord), .second, .val (.ref w_ALLOW), .unset, .unset, .unset, .unset, .unset, .unset, .unset, .unset] [])) _
  exact kt
set_option maxRecDepth 65536 in
set_option maxHeartbeats 40000000 in
theorem pc0_A1 {p : Program} {l : Launch} {e : Env} {s : State} {m : MethodId} {args : Array Value} {below : List Frame} {meth : Method} {c : Code} {T0 : State} {locs : List Loc} {Z : State} {a0 : Array Value} {h0 : Heap} {n0 : Nat} (q1 : Int64) (p2 : Int32) (p3 : Int32) (p4 : Int32) (p5 : Int32) (ord : Int64) (w_DENY : Addr)
    (X0 : Stand p l e room_1 s m args below meth c T0 locs 0 0) (hx : p.tables.exec = Jvm.exec) (hZ : Z.Warmed39 s.vm) (hw : ∀ d ∈ tables_1, d.before a0 Z = true) (hby : c.code = code) (hml : c.maxLocals = 17) (hown : s.vm.findClass "com/example/stanza_filter/stanzafilter/engine/PrivacyItemGroupPinLaw" = some m.cls) (e0 : T0.heap = h0) (Z0 : n0 ≤ h0.size) (N0 : Fr n0 locs) (hord : (q1 &&& (4294967295 : Int64)) = ord) (hs1 : (p2 &&& (1 : Int32)) = (1 : Int32)) (S_DENY : Sta Z h0 "com/example/stanza_filter/stanzafilter/engine/Action" "DENY" "Lcom/example/stanza_filter/stanzafilter/engine/Action;" (.ref w_DENY)) :
    ∃ (T' : State), Stand p l e room_1 s m args below meth c T' locs 0 0 ∧ T'.heap = h0 ∧ ∀ target, Steps p.tables e below (T'.setTop (mkF m 24 #[.val (.long q1), .second, .val (.int p2), .val (.int p3), .val (.int p4), .val (.int p5), .val (.long ord), .second, .val (.ref w_DENY), .unset, .unset, .unset, .unset, .unset, .unset, .unset, .unset] [])) target → Steps p.tables e below (T0.setTop (mkF m 0 #[.val (.long q1), .second, .val (.int p2), .val (.int p3), .val (.int p4), .val (.int p5), .unset, .unset, .unset, .unset, .unset, .unset, .unset, .unset, .unset, .unset, .unset] [])) target := by
  obtain ⟨T1, X1, e1, st1⟩ := getS2 X0 hx hZ hown (host := "") (Or.inl (hw _ (List.mem_of_getElem? (i := 121) rfl))) Via.refl e0 S_DENY (g := (mkF m 19 #[.val (.long q1), .second, .val (.int p2), .val (.int p3), .val (.int p4), .val (.int p5), .val (.long ord), .second, .unset, .unset, .unset, .unset, .unset, .unset, .unset, .unset, .unset] [])) rfl (hb hby at_19)
  refine ⟨T1, X1, e1, fun target kt => ?_⟩
  show Steps p.tables e below (T0.setTop (mkF m 0 #[.val (.long q1), .second, .val (.int p2), .val (.int p3), .val (.int p4), .val (.int p5), .unset, .unset, .unset, .unset, .unset, .unset, .unset, .unset, .unset, .unset, .unset] [])) _
  refine XS.lloadN X0.here hx rfl (hb hby at_0) rfl ?_
  show Steps p.tables e below (T0.setTop (mkF m 1 #[.val (.long q1), .second, .val (.int p2), .val (.int p3), .val (.int p4), .val (.int p5), .unset, .unset, .unset, .unset, .unset, .unset, .unset, .unset, .unset, .unset, .unset] [(.long q1)])) _
  refine X0.ldc2Long hx hown (mvT hZ (hw _ (List.mem_of_getElem? (i := 0) rfl))) (g := (mkF m 1 #[.val (.long q1), .second, .val (.int p2), .val (.int p3), .val (.int p4), .val (.int p5), .unset, .unset, .unset, .unset, .unset, .unset, .unset, .unset, .unset, .unset, .unset] [(.long q1)])) rfl (hb hby at_1) _ ?_
  show Steps p.tables e below (T0.setTop (mkF m 4 #[.val (.long q1), .second, .val (.int p2), .val (.int p3), .val (.int p4), .val (.int p5), .unset, .unset, .unset, .unset, .unset, .unset, .unset, .unset, .unset, .unset, .unset] [(.long 4294967295), (.long q1)])) _
  refine XS.land X0.here hx rfl (hb hby at_4) rfl ?_
  show Steps p.tables e below (T0.setTop (mkF m 5 #[.val (.long q1), .second, .val (.int p2), .val (.int p3), .val (.int p4), .val (.int p5), .unset, .unset, .unset, .unset, .unset, .unset, .unset, .unset, .unset, .unset, .unset] [(.long (q1 &&& (4294967295 : Int64)))])) _
  rw [hord]
  show Steps p.tables e below (T0.setTop (mkF m 5 #[.val (.long q1), .second, .val (.int p2), .val (.int p3), .val (.int p4), .val (.int p5), .unset, .unset, .unset, .unset, .unset, .unset, .unset, .unset, .unset, .unset, .unset] [(.long ord)])) _
  refine XS.lstore X0.here hx rfl (hb hby at_5) rfl (l' := #[.val (.long q1), .second, .val (.int p2), .val (.int p3), .val (.int p4), .val (.int p5), .val (.long ord), .second, .unset, .unset, .unset, .unset, .unset, .unset, .unset, .unset, .unset]) rfl ?_
  show Steps p.tables e below (T0.setTop (mkF m 7 #[.val (.long q1), .second, .val (.int p2), .val (.int p3), .val (.int p4), .val (.int p5), .val (.long ord), .second, .unset, .unset, .unset, .unset, .unset, .unset, .unset, .unset, .unset] [])) _
  refine XS.iloadN X0.here hx rfl (hb hby at_7) rfl ?_
  show Steps p.tables e below (T0.setTop (mkF m 8 #[.val (.long q1), .second, .val (.int p2), .val (.int p3), .val (.int p4), .val (.int p5), .val (.long ord), .second, .unset, .unset, .unset, .unset, .unset, .unset, .unset, .unset, .unset] [(.int p2)])) _
  refine XS.iconst X0.here hx rfl (hb hby at_8) ?_
  show Steps p.tables e below (T0.setTop (mkF m 9 #[.val (.long q1), .second, .val (.int p2), .val (.int p3), .val (.int p4), .val (.int p5), .val (.long ord), .second, .unset, .unset, .unset, .unset, .unset, .unset, .unset, .unset, .unset] [(.int 1), (.int p2)])) _
  refine XS.iand X0.here hx rfl (hb hby at_9) rfl ?_
  show Steps p.tables e below (T0.setTop (mkF m 10 #[.val (.long q1), .second, .val (.int p2), .val (.int p3), .val (.int p4), .val (.int p5), .val (.long ord), .second, .unset, .unset, .unset, .unset, .unset, .unset, .unset, .unset, .unset] [(.int (p2 &&& (1 : Int32)))])) _
  rw [hs1]
  show Steps p.tables e below (T0.setTop (mkF m 10 #[.val (.long q1), .second, .val (.int p2), .val (.int p3), .val (.int p4), .val (.int p5), .val (.long ord), .second, .unset, .unset, .unset, .unset, .unset, .unset, .unset, .unset, .unset] [(.int 1)])) _
  refine XS.ifYes X0.here hx rfl (pc0 := 10) (pc' := 19) rfl (hb hby at_10) rfl ((if0 _ _).trans (feq (by decide : ¬ ((1 : Int32) = (0 : Int32)))).2) (by decide) (by decide) ?_
  show Steps p.tables e below (T0.setTop (mkF m 19 #[.val (.long q1), .second, .val (.int p2), .val (.int p3), .val (.int p4), .val (.int p5), .val (.long ord), .second, .unset, .unset, .unset, .unset, .unset, .unset, .unset, .unset, .unset] [])) _
  refine st1 _ ?_
  show Steps p.tables e below (T1.setTop (mkF m 22 #[.val (.long q1), .second, .val (.int p2), .val (.int p3), .val (.int p4), .val (.int p5), .val (.long ord), .second, .unset, .unset, .unset, .unset, .unset, .unset, .unset, .unset, .unset] [(.ref w_DENY)])) _
  refine XS.astore X1.here hx rfl (hb hby at_22) rfl rfl (l' := #[.val (.long q1), .second, .val (.int p2), .val (.int p3), .val (.int p4), .val (.int p5), .val (.long ord), .second, .val (.ref w_DENY), .unset, .unset, .unset, .unset, .unset, .unset, .unset, .unset]) rfl ?_
  show Steps p.tables e below (T1.setTop (mkF m 24 #[.val (.long q1), .second, .val (.int p2), .val (.int p3), .val (.int p4), .val (.int p5), .val (.long ord), .second, .val (.ref w_DENY), .unset, .unset, .unset, .unset, .unset, .unset, .unset, .unset] [])) _
  exact kt
set_option maxRecDepth 65536 in
set_option maxHeartbeats 40000000 in
theorem pc0_B0 {p : Program} {l : Launch} {e : Env} {s : State} {m : MethodId} {args : Array Value} {below : List Frame} {meth : Method} {c : Code} {T0 : State} {locs : List Loc} {Z : State} {a0 : Array Value} {h0 : Heap} {n0 : Nat} (q1 : Int64) (p2 : Int32) (p3 : Int32) (p4 : Int32) (p5 : Int32) (ord : Int64) (act : Addr) (w_MESSAGE : Addr)
    (X0 : Stand p l e room_1 s m args below meth c T0 locs 0 0) (hx : p.tables.exec = Jvm.exec) (hZ : Z.Warmed39 s.vm) (hw : ∀ d ∈ tables_1, d.before a0 Z = true) (hby : c.code = code) (hml : c.maxLocals = 17) (hown : s.vm.findClass "com/example/stanza_filter/stanzafilter/engine/PrivacyItemGroupPinLaw" = some m.cls) (e0 : T0.heap = h0) (Z0 : n0 ≤ h0.size) (N0 : Fr n0 locs) (hsc : (((p2.toUInt32 >>> ((1 : Int32) &&& 31).toUInt32).toInt32) &&& (7 : Int32)) = (0 : Int32)) (S_MESSAGE : Sta Z h0 "com/example/stanza_filter/stanzafilter/engine/Scope" "MESSAGE" "Lcom/example/stanza_filter/stanzafilter/engine/Scope;" (.ref w_MESSAGE)) :
    ∃ (T' : State), Stand p l e room_1 s m args below meth c T' locs 0 0 ∧ T'.heap = h0 ∧ ∀ target, Steps p.tables e below (T'.setTop (mkF m 87 #[.val (.long q1), .second, .val (.int p2), .val (.int p3), .val (.int p4), .val (.int p5), .val (.long ord), .second, .val (.ref act), .val (.int 0), .val (.ref w_MESSAGE), .unset, .unset, .unset, .unset, .unset, .unset] [])) target → Steps p.tables e below (T0.setTop (mkF m 24 #[.val (.long q1), .second, .val (.int p2), .val (.int p3), .val (.int p4), .val (.int p5), .val (.long ord), .second, .val (.ref act), .unset, .unset, .unset, .unset, .unset, .unset, .unset, .unset] [])) target := by
  obtain ⟨T1, X1, e1, st1⟩ := getS2 X0 hx hZ hown (host := "") (Or.inl (hw _ (List.mem_of_getElem? (i := 134) rfl))) Via.refl e0 S_MESSAGE (g := (mkF m 40 #[.val (.long q1), .second, .val (.int p2), .val (.int p3), .val (.int p4), .val (.int p5), .val (.long ord), .second, .val (.ref act), .val (.int 0), .val .null, .unset, .unset, .unset, .unset, .unset, .unset] [])) rfl (hb hby at_40)
  refine ⟨T1, X1, e1, fun target kt => ?_⟩
  show Steps p.tables e below (T0.setTop (mkF m 24 #[.val (.long q1), .second, .val (.int p2), .val (.int p3), .val (.int p4), .val (.int p5), .val (.long ord), .second, .val (.ref act), .unset, .unset, .unset, .unset, .unset, .unset, .unset, .unset] [])) _
  refine XS.iloadN X0.here hx rfl (hb hby at_24) rfl ?_
  show Steps p.tables e below (T0.setTop (mkF m 25 #[.val (.long q1), .second, .val (.int p2), .val (.int p3), .val (.int p4), .val (.int p5), .val (.long ord), .second, .val (.ref act), .unset, .unset, .unset, .unset, .unset, .unset, .unset, .unset] [(.int p2)])) _
  refine XS.iconst X0.here hx rfl (hb hby at_25) ?_
  show Steps p.tables e below (T0.setTop (mkF m 26 #[.val (.long q1), .second, .val (.int p2), .val (.int p3), .val (.int p4), .val (.int p5), .val (.long ord), .second, .val (.ref act), .unset, .unset, .unset, .unset, .unset, .unset, .unset, .unset] [(.int 1), (.int p2)])) _
  refine XS.iushr X0.here hx rfl (hb hby at_26) rfl ?_
  show Steps p.tables e below (T0.setTop (mkF m 27 #[.val (.long q1), .second, .val (.int p2), .val (.int p3), .val (.int p4), .val (.int p5), .val (.long ord), .second, .val (.ref act), .unset, .unset, .unset, .unset, .unset, .unset, .unset, .unset] [(.int ((p2.toUInt32 >>> ((1 : Int32) &&& 31).toUInt32).toInt32))])) _
  refine XS.bipush X0.here hx rfl (hb hby at_27) ?_
  show Steps p.tables e below (T0.setTop (mkF m 29 #[.val (.long q1), .second, .val (.int p2), .val (.int p3), .val (.int p4), .val (.int p5), .val (.long ord), .second, .val (.ref act), .unset, .unset, .unset, .unset, .unset, .unset, .unset, .unset] [(.int 7), (.int ((p2.toUInt32 >>> ((1 : Int32) &&& 31).toUInt32).toInt32))])) _
  refine XS.iand X0.here hx rfl (hb hby at_29) rfl ?_
  show Steps p.tables e below (T0.setTop (mkF m 30 #[.val (.long q1), .second, .val (.int p2), .val (.int p3), .val (.int p4), .val (.int p5), .val (.long ord), .second, .val (.ref act), .unset, .unset, .unset, .unset, .unset, .unset, .unset, .unset] [(.int (((p2.toUInt32 >>> ((1 : Int32) &&& 31).toUInt32).toInt32) &&& (7 : Int32)))])) _
  rw [hsc]
  show Steps p.tables e below (T0.setTop (mkF m 30 #[.val (.long q1), .second, .val (.int p2), .val (.int p3), .val (.int p4), .val (.int p5), .val (.long ord), .second, .val (.ref act), .unset, .unset, .unset, .unset, .unset, .unset, .unset, .unset] [(.int 0)])) _
  refine XS.istore X0.here hx rfl (hb hby at_30) rfl (l' := #[.val (.long q1), .second, .val (.int p2), .val (.int p3), .val (.int p4), .val (.int p5), .val (.long ord), .second, .val (.ref act), .val (.int 0), .unset, .unset, .unset, .unset, .unset, .unset, .unset]) rfl ?_
  show Steps p.tables e below (T0.setTop (mkF m 32 #[.val (.long q1), .second, .val (.int p2), .val (.int p3), .val (.int p4), .val (.int p5), .val (.long ord), .second, .val (.ref act), .val (.int 0), .unset, .unset, .unset, .unset, .unset, .unset, .unset] [])) _
  refine XS.aconstNull X0.here hx rfl (hb hby at_32) ?_
  show Steps p.tables e below (T0.setTop (mkF m 33 #[.val (.long q1), .second, .val (.int p2), .val (.int p3), .val (.int p4), .val (.int p5), .val (.long ord), .second, .val (.ref act), .val (.int 0), .unset, .unset, .unset, .unset, .unset, .unset, .unset] [.null])) _
  refine XS.astore X0.here hx rfl (hb hby at_33) rfl rfl (l' := #[.val (.long q1), .second, .val (.int p2), .val (.int p3), .val (.int p4), .val (.int p5), .val (.long ord), .second, .val (.ref act), .val (.int 0), .val .null, .unset, .unset, .unset, .unset, .unset, .unset]) rfl ?_
  show Steps p.tables e below (T0.setTop (mkF m 35 #[.val (.long q1), .second, .val (.int p2), .val (.int p3), .val (.int p4), .val (.int p5), .val (.long ord), .second, .val (.ref act), .val (.int 0), .val .null, .unset, .unset, .unset, .unset, .unset, .unset] [])) _
  refine XS.iload X0.here hx rfl (hb hby at_35) rfl ?_
  show Steps p.tables e below (T0.setTop (mkF m 37 #[.val (.long q1), .second, .val (.int p2), .val (.int p3), .val (.int p4), .val (.int p5), .val (.long ord), .second, .val (.ref act), .val (.int 0), .val .null, .unset, .unset, .unset, .unset, .unset, .unset] [(.int 0)])) _
  refine XS.ifNo X0.here hx rfl (hb hby at_37) rfl ((if0 _ _).trans (teq (by decide : (0 : Int32) = (0 : Int32))).2) ?_
  show Steps p.tables e below (T0.setTop (mkF m 40 #[.val (.long q1), .second, .val (.int p2), .val (.int p3), .val (.int p4), .val (.int p5), .val (.long ord), .second, .val (.ref act), .val (.int 0), .val .null, .unset, .unset, .unset, .unset, .unset, .unset] [])) _
  refine st1 _ ?_
  show Steps p.tables e below (T1.setTop (mkF m 43 #[.val (.long q1), .second, .val (.int p2), .val (.int p3), .val (.int p4), .val (.int p5), .val (.long ord), .second, .val (.ref act), .val (.int 0), .val .null, .unset, .unset, .unset, .unset, .unset, .unset] [(.ref w_MESSAGE)])) _
  refine XS.astore X1.here hx rfl (hb hby at_43) rfl rfl (l' := #[.val (.long q1), .second, .val (.int p2), .val (.int p3), .val (.int p4), .val (.int p5), .val (.long ord), .second, .val (.ref act), .val (.int 0), .val (.ref w_MESSAGE), .unset, .unset, .unset, .unset, .unset, .unset]) rfl ?_
  show Steps p.tables e below (T1.setTop (mkF m 45 #[.val (.long q1), .second, .val (.int p2), .val (.int p3), .val (.int p4), .val (.int p5), .val (.long ord), .second, .val (.ref act), .val (.int 0), .val (.ref w_MESSAGE), .unset, .unset, .unset, .unset, .unset, .unset] [])) _
  refine XS.goto X1.here hx rfl (pc0 := 45) (pc' := 87) rfl (hb hby at_45) (by decide) (by decide) ?_
  show Steps p.tables e below (T1.setTop (mkF m 87 #[.val (.long q1), .second, .val (.int p2), .val (.int p3), .val (.int p4), .val (.int p5), .val (.long ord), .second, .val (.ref act), .val (.int 0), .val (.ref w_MESSAGE), .unset, .unset, .unset, .unset, .unset, .unset] [])) _
  exact kt
set_option maxRecDepth 65536 in
set_option maxHeartbeats 40000000 in
theorem pc0_B1 {p : Program} {l : Launch} {e : Env} {s : State} {m : MethodId} {args : Array Value} {below : List Frame} {meth : Method} {c : Code} {T0 : State} {locs : List Loc} {Z : State} {a0 : Array Value} {h0 : Heap} {n0 : Nat} (q1 : Int64) (p2 : Int32) (p3 : Int32) (p4 : Int32) (p5 : Int32) (ord : Int64) (act : Addr) (w_IQ : Addr)
    (X0 : Stand p l e room_1 s m args below meth c T0 locs 0 0) (hx : p.tables.exec = Jvm.exec) (hZ : Z.Warmed39 s.vm) (hw : ∀ d ∈ tables_1, d.before a0 Z = true) (hby : c.code = code) (hml : c.maxLocals = 17) (hown : s.vm.findClass "com/example/stanza_filter/stanzafilter/engine/PrivacyItemGroupPinLaw" = some m.cls) (e0 : T0.heap = h0) (Z0 : n0 ≤ h0.size) (N0 : Fr n0 locs) (hsc : (((p2.toUInt32 >>> ((1 : Int32) &&& 31).toUInt32).toInt32) &&& (7 : Int32)) = (1 : Int32)) (S_IQ : Sta Z h0 "com/example/stanza_filter/stanzafilter/engine/Scope" "IQ" "Lcom/example/stanza_filter/stanzafilter/engine/Scope;" (.ref w_IQ)) :
    ∃ (T' : State), Stand p l e room_1 s m args below meth c T' locs 0 0 ∧ T'.heap = h0 ∧ ∀ target, Steps p.tables e below (T'.setTop (mkF m 87 #[.val (.long q1), .second, .val (.int p2), .val (.int p3), .val (.int p4), .val (.int p5), .val (.long ord), .second, .val (.ref act), .val (.int 1), .val (.ref w_IQ), .unset, .unset, .unset, .unset, .unset, .unset] [])) target → Steps p.tables e below (T0.setTop (mkF m 24 #[.val (.long q1), .second, .val (.int p2), .val (.int p3), .val (.int p4), .val (.int p5), .val (.long ord), .second, .val (.ref act), .unset, .unset, .unset, .unset, .unset, .unset, .unset, .unset] [])) target := by
  obtain ⟨T1, X1, e1, st1⟩ := getS2 X0 hx hZ hown (host := "") (Or.inl (hw _ (List.mem_of_getElem? (i := 4) rfl))) Via.refl e0 S_IQ (g := (mkF m 54 #[.val (.long q1), .second, .val (.int p2), .val (.int p3), .val (.int p4), .val (.int p5), .val (.long ord), .second, .val (.ref act), .val (.int 1), .val .null, .unset, .unset, .unset, .unset, .unset, .unset] [])) rfl (hb hby at_54)
  refine ⟨T1, X1, e1, fun target kt => ?_⟩
  show Steps p.tables e below (T0.setTop (mkF m 24 #[.val (.long q1), .second, .val (.int p2), .val (.int p3), .val (.int p4), .val (.int p5), .val (.long ord), .second, .val (.ref act), .unset, .unset, .unset, .unset, .unset, .unset, .unset, .unset] [])) _
  refine XS.iloadN X0.here hx rfl (hb hby at_24) rfl ?_
  show Steps p.tables e below (T0.setTop (mkF m 25 #[.val (.long q1), .second, .val (.int p2), .val (.int p3), .val (.int p4), .val (.int p5), .val (.long ord), .second, .val (.ref act), .unset, .unset, .unset, .unset, .unset, .unset, .unset, .unset] [(.int p2)])) _
  refine XS.iconst X0.here hx rfl (hb hby at_25) ?_
  show Steps p.tables e below (T0.setTop (mkF m 26 #[.val (.long q1), .second, .val (.int p2), .val (.int p3), .val (.int p4), .val (.int p5), .val (.long ord), .second, .val (.ref act), .unset, .unset, .unset, .unset, .unset, .unset, .unset, .unset] [(.int 1), (.int p2)])) _
  refine XS.iushr X0.here hx rfl (hb hby at_26) rfl ?_
  show Steps p.tables e below (T0.setTop (mkF m 27 #[.val (.long q1), .second, .val (.int p2), .val (.int p3), .val (.int p4), .val (.int p5), .val (.long ord), .second, .val (.ref act), .unset, .unset, .unset, .unset, .unset, .unset, .unset, .unset] [(.int ((p2.toUInt32 >>> ((1 : Int32) &&& 31).toUInt32).toInt32))])) _
  refine XS.bipush X0.here hx rfl (hb hby at_27) ?_
  show Steps p.tables e below (T0.setTop (mkF m 29 #[.val (.long q1), .second, .val (.int p2), .val (.int p3), .val (.int p4), .val (.int p5), .val (.long ord), .second, .val (.ref act), .unset, .unset, .unset, .unset, .unset, .unset, .unset, .unset] [(.int 7), (.int ((p2.toUInt32 >>> ((1 : Int32) &&& 31).toUInt32).toInt32))])) _
  refine XS.iand X0.here hx rfl (hb hby at_29) rfl ?_
  show Steps p.tables e below (T0.setTop (mkF m 30 #[.val (.long q1), .second, .val (.int p2), .val (.int p3), .val (.int p4), .val (.int p5), .val (.long ord), .second, .val (.ref act), .unset, .unset, .unset, .unset, .unset, .unset, .unset, .unset] [(.int (((p2.toUInt32 >>> ((1 : Int32) &&& 31).toUInt32).toInt32) &&& (7 : Int32)))])) _
  rw [hsc]
  show Steps p.tables e below (T0.setTop (mkF m 30 #[.val (.long q1), .second, .val (.int p2), .val (.int p3), .val (.int p4), .val (.int p5), .val (.long ord), .second, .val (.ref act), .unset, .unset, .unset, .unset, .unset, .unset, .unset, .unset] [(.int 1)])) _
  refine XS.istore X0.here hx rfl (hb hby at_30) rfl (l' := #[.val (.long q1), .second, .val (.int p2), .val (.int p3), .val (.int p4), .val (.int p5), .val (.long ord), .second, .val (.ref act), .val (.int 1), .unset, .unset, .unset, .unset, .unset, .unset, .unset]) rfl ?_
  show Steps p.tables e below (T0.setTop (mkF m 32 #[.val (.long q1), .second, .val (.int p2), .val (.int p3), .val (.int p4), .val (.int p5), .val (.long ord), .second, .val (.ref act), .val (.int 1), .unset, .unset, .unset, .unset, .unset, .unset, .unset] [])) _
  refine XS.aconstNull X0.here hx rfl (hb hby at_32) ?_
  show Steps p.tables e below (T0.setTop (mkF m 33 #[.val (.long q1), .second, .val (.int p2), .val (.int p3), .val (.int p4), .val (.int p5), .val (.long ord), .second, .val (.ref act), .val (.int 1), .unset, .unset, .unset, .unset, .unset, .unset, .unset] [.null])) _
  refine XS.astore X0.here hx rfl (hb hby at_33) rfl rfl (l' := #[.val (.long q1), .second, .val (.int p2), .val (.int p3), .val (.int p4), .val (.int p5), .val (.long ord), .second, .val (.ref act), .val (.int 1), .val .null, .unset, .unset, .unset, .unset, .unset, .unset]) rfl ?_
  show Steps p.tables e below (T0.setTop (mkF m 35 #[.val (.long q1), .second, .val (.int p2), .val (.int p3), .val (.int p4), .val (.int p5), .val (.long ord), .second, .val (.ref act), .val (.int 1), .val .null, .unset, .unset, .unset, .unset, .unset, .unset] [])) _
  refine XS.iload X0.here hx rfl (hb hby at_35) rfl ?_
  show Steps p.tables e below (T0.setTop (mkF m 37 #[.val (.long q1), .second, .val (.int p2), .val (.int p3), .val (.int p4), .val (.int p5), .val (.long ord), .second, .val (.ref act), .val (.int 1), .val .null, .unset, .unset, .unset, .unset, .unset, .unset] [(.int 1)])) _
  refine XS.ifYes X0.here hx rfl (pc0 := 37) (pc' := 48) rfl (hb hby at_37) rfl ((if0 _ _).trans (feq (by decide : ¬ ((1 : Int32) = (0 : Int32)))).2) (by decide) (by decide) ?_
  show Steps p.tables e below (T0.setTop (mkF m 48 #[.val (.long q1), .second, .val (.int p2), .val (.int p3), .val (.int p4), .val (.int p5), .val (.long ord), .second, .val (.ref act), .val (.int 1), .val .null, .unset, .unset, .unset, .unset, .unset, .unset] [])) _
  refine XS.iload X0.here hx rfl (hb hby at_48) rfl ?_
  show Steps p.tables e below (T0.setTop (mkF m 50 #[.val (.long q1), .second, .val (.int p2), .val (.int p3), .val (.int p4), .val (.int p5), .val (.long ord), .second, .val (.ref act), .val (.int 1), .val .null, .unset, .unset, .unset, .unset, .unset, .unset] [(.int 1)])) _
  refine XS.iconst X0.here hx rfl (hb hby at_50) ?_
  show Steps p.tables e below (T0.setTop (mkF m 51 #[.val (.long q1), .second, .val (.int p2), .val (.int p3), .val (.int p4), .val (.int p5), .val (.long ord), .second, .val (.ref act), .val (.int 1), .val .null, .unset, .unset, .unset, .unset, .unset, .unset] [(.int 1), (.int 1)])) _
  refine XS.icmpNo X0.here hx rfl (hb hby at_51) rfl (teq (by decide : (1 : Int32) = (1 : Int32))).2 ?_
  show Steps p.tables e below (T0.setTop (mkF m 54 #[.val (.long q1), .second, .val (.int p2), .val (.int p3), .val (.int p4), .val (.int p5), .val (.long ord), .second, .val (.ref act), .val (.int 1), .val .null, .unset, .unset, .unset, .unset, .unset, .unset] [])) _
  refine st1 _ ?_
  show Steps p.tables e below (T1.setTop (mkF m 57 #[.val (.long q1), .second, .val (.int p2), .val (.int p3), .val (.int p4), .val (.int p5), .val (.long ord), .second, .val (.ref act), .val (.int 1), .val .null, .unset, .unset, .unset, .unset, .unset, .unset] [(.ref w_IQ)])) _
  refine XS.astore X1.here hx rfl (hb hby at_57) rfl rfl (l' := #[.val (.long q1), .second, .val (.int p2), .val (.int p3), .val (.int p4), .val (.int p5), .val (.long ord), .second, .val (.ref act), .val (.int 1), .val (.ref w_IQ), .unset, .unset, .unset, .unset, .unset, .unset]) rfl ?_
  show Steps p.tables e below (T1.setTop (mkF m 59 #[.val (.long q1), .second, .val (.int p2), .val (.int p3), .val (.int p4), .val (.int p5), .val (.long ord), .second, .val (.ref act), .val (.int 1), .val (.ref w_IQ), .unset, .unset, .unset, .unset, .unset, .unset] [])) _
  refine XS.goto X1.here hx rfl (pc0 := 59) (pc' := 87) rfl (hb hby at_59) (by decide) (by decide) ?_
  show Steps p.tables e below (T1.setTop (mkF m 87 #[.val (.long q1), .second, .val (.int p2), .val (.int p3), .val (.int p4), .val (.int p5), .val (.long ord), .second, .val (.ref act), .val (.int 1), .val (.ref w_IQ), .unset, .unset, .unset, .unset, .unset, .unset] [])) _
  exact kt
set_option maxRecDepth 65536 in
set_option maxHeartbeats 40000000 in
theorem pc0_B2 {p : Program} {l : Launch} {e : Env} {s : State} {m : MethodId} {args : Array Value} {below : List Frame} {meth : Method} {c : Code} {T0 : State} {locs : List Loc} {Z : State} {a0 : Array Value} {h0 : Heap} {n0 : Nat} (q1 : Int64) (p2 : Int32) (p3 : Int32) (p4 : Int32) (p5 : Int32) (ord : Int64) (act : Addr) (w_PRESENCE_IN : Addr)
    (X0 : Stand p l e room_1 s m args below meth c T0 locs 0 0) (hx : p.tables.exec = Jvm.exec) (hZ : Z.Warmed39 s.vm) (hw : ∀ d ∈ tables_1, d.before a0 Z = true) (hby : c.code = code) (hml : c.maxLocals = 17) (hown : s.vm.findClass "com/example/stanza_filter/stanzafilter/engine/PrivacyItemGroupPinLaw" = some m.cls) (e0 : T0.heap = h0) (Z0 : n0 ≤ h0.size) (N0 : Fr n0 locs) (hsc : (((p2.toUInt32 >>> ((1 : Int32) &&& 31).toUInt32).toInt32) &&& (7 : Int32)) = (2 : Int32)) (S_PRESENCE_IN : Sta Z h0 "com/example/stanza_filter/stanzafilter/engine/Scope" "PRESENCE_IN" "Lcom/example/stanza_filter/stanzafilter/engine/Scope;" (.ref w_PRESENCE_IN)) :
    ∃ (T' : State), Stand p l e room_1 s m args below meth c T' locs 0 0 ∧ T'.heap = h0 ∧ ∀ target, Steps p.tables e below (T'.setTop (mkF m 87 #[.val (.long q1), .second, .val (.int p2), .val (.int p3), .val (.int p4), .val (.int p5), .val (.long ord), .second, .val (.ref act), .val (.int 2), .val (.ref w_PRESENCE_IN), .unset, .unset, .unset, .unset, .unset, .unset] [])) target → Steps p.tables e below (T0.setTop (mkF m 24 #[.val (.long q1), .second, .val (.int p2), .val (.int p3), .val (.int p4), .val (.int p5), .val (.long ord), .second, .val (.ref act), .unset, .unset, .unset, .unset, .unset, .unset, .unset, .unset] [])) target := by
  obtain ⟨T1, X1, e1, st1⟩ := getS2 X0 hx hZ hown (host := "") (Or.inl (hw _ (List.mem_of_getElem? (i := 138) rfl))) Via.refl e0 S_PRESENCE_IN (g := (mkF m 68 #[.val (.long q1), .second, .val (.int p2), .val (.int p3), .val (.int p4), .val (.int p5), .val (.long ord), .second, .val (.ref act), .val (.int 2), .val .null, .unset, .unset, .unset, .unset, .unset, .unset] [])) rfl (hb hby at_68)
  refine ⟨T1, X1, e1, fun target kt => ?_⟩
  show Steps p.tables e below (T0.setTop (mkF m 24 #[.val (.long q1), .second, .val (.int p2), .val (.int p3), .val (.int p4), .val (.int p5), .val (.long ord), .second, .val (.ref act), .unset, .unset, .unset, .unset, .unset, .unset, .unset, .unset] [])) _
  refine XS.iloadN X0.here hx rfl (hb hby at_24) rfl ?_
  show Steps p.tables e below (T0.setTop (mkF m 25 #[.val (.long q1), .second, .val (.int p2), .val (.int p3), .val (.int p4), .val (.int p5), .val (.long ord), .second, .val (.ref act), .unset, .unset, .unset, .unset, .unset, .unset, .unset, .unset] [(.int p2)])) _
  refine XS.iconst X0.here hx rfl (hb hby at_25) ?_
  show Steps p.tables e below (T0.setTop (mkF m 26 #[.val (.long q1), .second, .val (.int p2), .val (.int p3), .val (.int p4), .val (.int p5), .val (.long ord), .second, .val (.ref act), .unset, .unset, .unset, .unset, .unset, .unset, .unset, .unset] [(.int 1), (.int p2)])) _
  refine XS.iushr X0.here hx rfl (hb hby at_26) rfl ?_
  show Steps p.tables e below (T0.setTop (mkF m 27 #[.val (.long q1), .second, .val (.int p2), .val (.int p3), .val (.int p4), .val (.int p5), .val (.long ord), .second, .val (.ref act), .unset, .unset, .unset, .unset, .unset, .unset, .unset, .unset] [(.int ((p2.toUInt32 >>> ((1 : Int32) &&& 31).toUInt32).toInt32))])) _
  refine XS.bipush X0.here hx rfl (hb hby at_27) ?_
  show Steps p.tables e below (T0.setTop (mkF m 29 #[.val (.long q1), .second, .val (.int p2), .val (.int p3), .val (.int p4), .val (.int p5), .val (.long ord), .second, .val (.ref act), .unset, .unset, .unset, .unset, .unset, .unset, .unset, .unset] [(.int 7), (.int ((p2.toUInt32 >>> ((1 : Int32) &&& 31).toUInt32).toInt32))])) _
  refine XS.iand X0.here hx rfl (hb hby at_29) rfl ?_
  show Steps p.tables e below (T0.setTop (mkF m 30 #[.val (.long q1), .second, .val (.int p2), .val (.int p3), .val (.int p4), .val (.int p5), .val (.long ord), .second, .val (.ref act), .unset, .unset, .unset, .unset, .unset, .unset, .unset, .unset] [(.int (((p2.toUInt32 >>> ((1 : Int32) &&& 31).toUInt32).toInt32) &&& (7 : Int32)))])) _
  rw [hsc]
  show Steps p.tables e below (T0.setTop (mkF m 30 #[.val (.long q1), .second, .val (.int p2), .val (.int p3), .val (.int p4), .val (.int p5), .val (.long ord), .second, .val (.ref act), .unset, .unset, .unset, .unset, .unset, .unset, .unset, .unset] [(.int 2)])) _
  refine XS.istore X0.here hx rfl (hb hby at_30) rfl (l' := #[.val (.long q1), .second, .val (.int p2), .val (.int p3), .val (.int p4), .val (.int p5), .val (.long ord), .second, .val (.ref act), .val (.int 2), .unset, .unset, .unset, .unset, .unset, .unset, .unset]) rfl ?_
  show Steps p.tables e below (T0.setTop (mkF m 32 #[.val (.long q1), .second, .val (.int p2), .val (.int p3), .val (.int p4), .val (.int p5), .val (.long ord), .second, .val (.ref act), .val (.int 2), .unset, .unset, .unset, .unset, .unset, .unset, .unset] [])) _
  refine XS.aconstNull X0.here hx rfl (hb hby at_32) ?_
  show Steps p.tables e below (T0.setTop (mkF m 33 #[.val (.long q1), .second, .val (.int p2), .val (.int p3), .val (.int p4), .val (.int p5), .val (.long ord), .second, .val (.ref act), .val (.int 2), .unset, .unset, .unset, .unset, .unset, .unset, .unset] [.null])) _
  refine XS.astore X0.here hx rfl (hb hby at_33) rfl rfl (l' := #[.val (.long q1), .second, .val (.int p2), .val (.int p3), .val (.int p4), .val (.int p5), .val (.long ord), .second, .val (.ref act), .val (.int 2), .val .null, .unset, .unset, .unset, .unset, .unset, .unset]) rfl ?_
  show Steps p.tables e below (T0.setTop (mkF m 35 #[.val (.long q1), .second, .val (.int p2), .val (.int p3), .val (.int p4), .val (.int p5), .val (.long ord), .second, .val (.ref act), .val (.int 2), .val .null, .unset, .unset, .unset, .unset, .unset, .unset] [])) _
  refine XS.iload X0.here hx rfl (hb hby at_35) rfl ?_
  show Steps p.tables e below (T0.setTop (mkF m 37 #[.val (.long q1), .second, .val (.int p2), .val (.int p3), .val (.int p4), .val (.int p5), .val (.long ord), .second, .val (.ref act), .val (.int 2), .val .null, .unset, .unset, .unset, .unset, .unset, .unset] [(.int 2)])) _
  refine XS.ifYes X0.here hx rfl (pc0 := 37) (pc' := 48) rfl (hb hby at_37) rfl ((if0 _ _).trans (feq (by decide : ¬ ((2 : Int32) = (0 : Int32)))).2) (by decide) (by decide) ?_
  show Steps p.tables e below (T0.setTop (mkF m 48 #[.val (.long q1), .second, .val (.int p2), .val (.int p3), .val (.int p4), .val (.int p5), .val (.long ord), .second, .val (.ref act), .val (.int 2), .val .null, .unset, .unset, .unset, .unset, .unset, .unset] [])) _
  refine XS.iload X0.here hx rfl (hb hby at_48) rfl ?_
  show Steps p.tables e below (T0.setTop (mkF m 50 #[.val (.long q1), .second, .val (.int p2), .val (.int p3), .val (.int p4), .val (.int p5), .val (.long ord), .second, .val (.ref act), .val (.int 2), .val .null, .unset, .unset, .unset, .unset, .unset, .unset] [(.int 2)])) _
  refine XS.iconst X0.here hx rfl (hb hby at_50) ?_
  show Steps p.tables e below (T0.setTop (mkF m 51 #[.val (.long q1), .second, .val (.int p2), .val (.int p3), .val (.int p4), .val (.int p5), .val (.long ord), .second, .val (.ref act), .val (.int 2), .val .null, .unset, .unset, .unset, .unset, .unset, .unset] [(.int 1), (.int 2)])) _
  refine XS.icmpYes X0.here hx rfl (pc0 := 51) (pc' := 62) rfl (hb hby at_51) rfl (feq (by decide : ¬ ((2 : Int32) = (1 : Int32)))).2 (by decide) (by decide) ?_
  show Steps p.tables e below (T0.setTop (mkF m 62 #[.val (.long q1), .second, .val (.int p2), .val (.int p3), .val (.int p4), .val (.int p5), .val (.long ord), .second, .val (.ref act), .val (.int 2), .val .null, .unset, .unset, .unset, .unset, .unset, .unset] [])) _
  refine XS.iload X0.here hx rfl (hb hby at_62) rfl ?_
  show Steps p.tables e below (T0.setTop (mkF m 64 #[.val (.long q1), .second, .val (.int p2), .val (.int p3), .val (.int p4), .val (.int p5), .val (.long ord), .second, .val (.ref act), .val (.int 2), .val .null, .unset, .unset, .unset, .unset, .unset, .unset] [(.int 2)])) _
  refine XS.iconst X0.here hx rfl (hb hby at_64) ?_
  show Steps p.tables e below (T0.setTop (mkF m 65 #[.val (.long q1), .second, .val (.int p2), .val (.int p3), .val (.int p4), .val (.int p5), .val (.long ord), .second, .val (.ref act), .val (.int 2), .val .null, .unset, .unset, .unset, .unset, .unset, .unset] [(.int 2), (.int 2)])) _
  refine XS.icmpNo X0.here hx rfl (hb hby at_65) rfl (teq (by decide : (2 : Int32) = (2 : Int32))).2 ?_
  show Steps p.tables e below (T0.setTop (mkF m 68 #[.val (.long q1), .second, .val (.int p2), .val (.int p3), .val (.int p4), .val (.int p5), .val (.long ord), .second, .val (.ref act), .val (.int 2), .val .null, .unset, .unset, .unset, .unset, .unset, .unset] [])) _
  refine st1 _ ?_
  show Steps p.tables e below (T1.setTop (mkF m 71 #[.val (.long q1), .second, .val (.int p2), .val (.int p3), .val (.int p4), .val (.int p5), .val (.long ord), .second, .val (.ref act), .val (.int 2), .val .null, .unset, .unset, .unset, .unset, .unset, .unset] [(.ref w_PRESENCE_IN)])) _
  refine XS.astore X1.here hx rfl (hb hby at_71) rfl rfl (l' := #[.val (.long q1), .second, .val (.int p2), .val (.int p3), .val (.int p4), .val (.int p5), .val (.long ord), .second, .val (.ref act), .val (.int 2), .val (.ref w_PRESENCE_IN), .unset, .unset, .unset, .unset, .unset, .unset]) rfl ?_
  show Steps p.tables e below (T1.setTop (mkF m 73 #[.val (.long q1), .second, .val (.int p2), .val (.int p3), .val (.int p4), .val (.int p5), .val (.long ord), .second, .val (.ref act), .val (.int 2), .val (.ref w_PRESENCE_IN), .unset, .unset, .unset, .unset, .unset, .unset] [])) _
  refine XS.goto X1.here hx rfl (pc0 := 73) (pc' := 87) rfl (hb hby at_73) (by decide) (by decide) ?_
  show Steps p.tables e below (T1.setTop (mkF m 87 #[.val (.long q1), .second, .val (.int p2), .val (.int p3), .val (.int p4), .val (.int p5), .val (.long ord), .second, .val (.ref act), .val (.int 2), .val (.ref w_PRESENCE_IN), .unset, .unset, .unset, .unset, .unset, .unset] [])) _
  exact kt
set_option maxRecDepth 65536 in
set_option maxHeartbeats 40000000 in
theorem pc0_B3 {p : Program} {l : Launch} {e : Env} {s : State} {m : MethodId} {args : Array Value} {below : List Frame} {meth : Method} {c : Code} {T0 : State} {locs : List Loc} {Z : State} {a0 : Array Value} {h0 : Heap} {n0 : Nat} (q1 : Int64) (p2 : Int32) (p3 : Int32) (p4 : Int32) (p5 : Int32) (ord : Int64) (act : Addr) (w_PRESENCE_OUT : Addr)
    (X0 : Stand p l e room_1 s m args below meth c T0 locs 0 0) (hx : p.tables.exec = Jvm.exec) (hZ : Z.Warmed39 s.vm) (hw : ∀ d ∈ tables_1, d.before a0 Z = true) (hby : c.code = code) (hml : c.maxLocals = 17) (hown : s.vm.findClass "com/example/stanza_filter/stanzafilter/engine/PrivacyItemGroupPinLaw" = some m.cls) (e0 : T0.heap = h0) (Z0 : n0 ≤ h0.size) (N0 : Fr n0 locs) (hsc : (((p2.toUInt32 >>> ((1 : Int32) &&& 31).toUInt32).toInt32) &&& (7 : Int32)) = (3 : Int32)) (S_PRESENCE_OUT : Sta Z h0 "com/example/stanza_filter/stanzafilter/engine/Scope" "PRESENCE_OUT" "Lcom/example/stanza_filter/stanzafilter/engine/Scope;" (.ref w_PRESENCE_OUT)) :
    ∃ (T' : State), Stand p l e room_1 s m args below meth c T' locs 0 0 ∧ T'.heap = h0 ∧ ∀ target, Steps p.tables e below (T'.setTop (mkF m 87 #[.val (.long q1), .second, .val (.int p2), .val (.int p3), .val (.int p4), .val (.int p5), .val (.long ord), .second, .val (.ref act), .val (.int 3), .val (.ref w_PRESENCE_OUT), .unset, .unset, .unset, .unset, .unset, .unset] [])) target → Steps p.tables e below (T0.setTop (mkF m 24 #[.val (.long q1), .second, .val (.int p2), .val (.int p3), .val (.int p4), .val (.int p5), .val (.long ord), .second, .val (.ref act), .unset, .unset, .unset, .unset, .unset, .unset, .unset, .unset] [])) target := by
  obtain ⟨T1, X1, e1, st1⟩ := getS2 X0 hx hZ hown (host := "") (Or.inl (hw _ (List.mem_of_getElem? (i := 136) rfl))) Via.refl e0 S_PRESENCE_OUT (g := (mkF m 82 #[.val (.long q1), .second, .val (.int p2), .val (.int p3), .val (.int p4), .val (.int p5), .val (.long ord), .second, .val (.ref act), .val (.int 3), .val .null, .unset, .unset, .unset, .unset, .unset, .unset] [])) rfl (hb hby at_82)
  refine ⟨T1, X1, e1, fun target kt => ?_⟩
  show Steps p.tables e below (T0.setTop (mkF m 24 #[.val (.long q1), .second, .val (.int p2), .val (.int p3), .val (.int p4), .val (.int p5), .val (.long ord), .second, .val (.ref act), .unset, .unset, .unset, .unset, .unset, .unset, .unset, .unset] [])) _
  refine XS.iloadN X0.here hx rfl (hb hby at_24) rfl ?_
  show Steps p.tables e below (T0.setTop (mkF m 25 #[.val (.long q1), .second, .val (.int p2), .val (.int p3), .val (.int p4), .val (.int p5), .val (.long ord), .second, .val (.ref act), .unset, .unset, .unset, .unset, .unset, .unset, .unset, .unset] [(.int p2)])) _
  refine XS.iconst X0.here hx rfl (hb hby at_25) ?_
  show Steps p.tables e below (T0.setTop (mkF m 26 #[.val (.long q1), .second, .val (.int p2), .val (.int p3), .val (.int p4), .val (.int p5), .val (.long ord), .second, .val (.ref act), .unset, .unset, .unset, .unset, .unset, .unset, .unset, .unset] [(.int 1), (.int p2)])) _
  refine XS.iushr X0.here hx rfl (hb hby at_26) rfl ?_
  show Steps p.tables e below (T0.setTop (mkF m 27 #[.val (.long q1), .second, .val (.int p2), .val (.int p3), .val (.int p4), .val (.int p5), .val (.long ord), .second, .val (.ref act), .unset, .unset, .unset, .unset, .unset, .unset, .unset, .unset] [(.int ((p2.toUInt32 >>> ((1 : Int32) &&& 31).toUInt32).toInt32))])) _
  refine XS.bipush X0.here hx rfl (hb hby at_27) ?_
  show Steps p.tables e below (T0.setTop (mkF m 29 #[.val (.long q1), .second, .val (.int p2), .val (.int p3), .val (.int p4), .val (.int p5), .val (.long ord), .second, .val (.ref act), .unset, .unset, .unset, .unset, .unset, .unset, .unset, .unset] [(.int 7), (.int ((p2.toUInt32 >>> ((1 : Int32) &&& 31).toUInt32).toInt32))])) _
  refine XS.iand X0.here hx rfl (hb hby at_29) rfl ?_
  show Steps p.tables e below (T0.setTop (mkF m 30 #[.val (.long q1), .second, .val (.int p2), .val (.int p3), .val (.int p4), .val (.int p5), .val (.long ord), .second, .val (.ref act), .unset, .unset, .unset, .unset, .unset, .unset, .unset, .unset] [(.int (((p2.toUInt32 >>> ((1 : Int32) &&& 31).toUInt32).toInt32) &&& (7 : Int32)))])) _
  rw [hsc]
  show Steps p.tables e below (T0.setTop (mkF m 30 #[.val (.long q1), .second, .val (.int p2), .val (.int p3), .val (.int p4), .val (.int p5), .val (.long ord), .second, .val (.ref act), .unset, .unset, .unset, .unset, .unset, .unset, .unset, .unset] [(.int 3)])) _
  refine XS.istore X0.here hx rfl (hb hby at_30) rfl (l' := #[.val (.long q1), .second, .val (.int p2), .val (.int p3), .val (.int p4), .val (.int p5), .val (.long ord), .second, .val (.ref act), .val (.int 3), .unset, .unset, .unset, .unset, .unset, .unset, .unset]) rfl ?_
  show Steps p.tables e below (T0.setTop (mkF m 32 #[.val (.long q1), .second, .val (.int p2), .val (.int p3), .val (.int p4), .val (.int p5), .val (.long ord), .second, .val (.ref act), .val (.int 3), .unset, .unset, .unset, .unset, .unset, .unset, .unset] [])) _
  refine XS.aconstNull X0.here hx rfl (hb hby at_32) ?_
  show Steps p.tables e below (T0.setTop (mkF m 33 #[.val (.long q1), .second, .val (.int p2), .val (.int p3), .val (.int p4), .val (.int p5), .val (.long ord), .second, .val (.ref act), .val (.int 3), .unset, .unset, .unset, .unset, .unset, .unset, .unset] [.null])) _
  refine XS.astore X0.here hx rfl (hb hby at_33) rfl rfl (l' := #[.val (.long q1), .second, .val (.int p2), .val (.int p3), .val (.int p4), .val (.int p5), .val (.long ord), .second, .val (.ref act), .val (.int 3), .val .null, .unset, .unset, .unset, .unset, .unset, .unset]) rfl ?_
  show Steps p.tables e below (T0.setTop (mkF m 35 #[.val (.long q1), .second, .val (.int p2), .val (.int p3), .val (.int p4), .val (.int p5), .val (.long ord), .second, .val (.ref act), .val (.int 3), .val .null, .unset, .unset, .unset, .unset, .unset, .unset] [])) _
  refine XS.iload X0.here hx rfl (hb hby at_35) rfl ?_
  show Steps p.tables e below (T0.setTop (mkF m 37 #[.val (.long q1), .second, .val (.int p2), .val (.int p3), .val (.int p4), .val (.int p5), .val (.long ord), .second, .val (.ref act), .val (.int 3), .val .null, .unset, .unset, .unset, .unset, .unset, .unset] [(.int 3)])) _
  refine XS.ifYes X0.here hx rfl (pc0 := 37) (pc' := 48) rfl (hb hby at_37) rfl ((if0 _ _).trans (feq (by decide : ¬ ((3 : Int32) = (0 : Int32)))).2) (by decide) (by decide) ?_
  show Steps p.tables e below (T0.setTop (mkF m 48 #[.val (.long q1), .second, .val (.int p2), .val (.int p3), .val (.int p4), .val (.int p5), .val (.long ord), .second, .val (.ref act), .val (.int 3), .val .null, .unset, .unset, .unset, .unset, .unset, .unset] [])) _
  refine XS.iload X0.here hx rfl (hb hby at_48) rfl ?_
  show Steps p.tables e below (T0.setTop (mkF m 50 #[.val (.long q1), .second, .val (.int p2), .val (.int p3), .val (.int p4), .val (.int p5), .val (.long ord), .second, .val (.ref act), .val (.int 3), .val .null, .unset, .unset, .unset, .unset, .unset, .unset] [(.int 3)])) _
  refine XS.iconst X0.here hx rfl (hb hby at_50) ?_
  show Steps p.tables e below (T0.setTop (mkF m 51 #[.val (.long q1), .second, .val (.int p2), .val (.int p3), .val (.int p4), .val (.int p5), .val (.long ord), .second, .val (.ref act), .val (.int 3), .val .null, .unset, .unset, .unset, .unset, .unset, .unset] [(.int 1), (.int 3)])) _
  refine XS.icmpYes X0.here hx rfl (pc0 := 51) (pc' := 62) rfl (hb hby at_51) rfl (feq (by decide : ¬ ((3 : Int32) = (1 : Int32)))).2 (by decide) (by decide) ?_
  show Steps p.tables e below (T0.setTop (mkF m 62 #[.val (.long q1), .second, .val (.int p2), .val (.int p3), .val (.int p4), .val (.int p5), .val (.long ord), .second, .val (.ref act), .val (.int 3), .val .null, .unset, .unset, .unset, .unset, .unset, .unset] [])) _
  refine XS.iload X0.here hx rfl (hb hby at_62) rfl ?_
  show Steps p.tables e below (T0.setTop (mkF m 64 #[.val (.long q1), .second, .val (.int p2), .val (.int p3), .val (.int p4), .val (.int p5), .val (.long ord), .second, .val (.ref act), .val (.int 3), .val .null, .unset, .unset, .unset, .unset, .unset, .unset] [(.int 3)])) _
  refine XS.iconst X0.here hx rfl (hb hby at_64) ?_
  show Steps p.tables e below (T0.setTop (mkF m 65 #[.val (.long q1), .second, .val (.int p2), .val (.int p3), .val (.int p4), .val (.int p5), .val (.long ord), .second, .val (.ref act), .val (.int 3), .val .null, .unset, .unset, .unset, .unset, .unset, .unset] [(.int 2), (.int 3)])) _
  refine XS.icmpYes X0.here hx rfl (pc0 := 65) (pc' := 76) rfl (hb hby at_65) rfl (feq (by decide : ¬ ((3 : Int32) = (2 : Int32)))).2 (by decide) (by decide) ?_
  show Steps p.tables e below (T0.setTop (mkF m 76 #[.val (.long q1), .second, .val (.int p2), .val (.int p3), .val (.int p4), .val (.int p5), .val (.long ord), .second, .val (.ref act), .val (.int 3), .val .null, .unset, .unset, .unset, .unset, .unset, .unset] [])) _
  refine XS.iload X0.here hx rfl (hb hby at_76) rfl ?_
  show Steps p.tables e below (T0.setTop (mkF m 78 #[.val (.long q1), .second, .val (.int p2), .val (.int p3), .val (.int p4), .val (.int p5), .val (.long ord), .second, .val (.ref act), .val (.int 3), .val .null, .unset, .unset, .unset, .unset, .unset, .unset] [(.int 3)])) _
  refine XS.iconst X0.here hx rfl (hb hby at_78) ?_
  show Steps p.tables e below (T0.setTop (mkF m 79 #[.val (.long q1), .second, .val (.int p2), .val (.int p3), .val (.int p4), .val (.int p5), .val (.long ord), .second, .val (.ref act), .val (.int 3), .val .null, .unset, .unset, .unset, .unset, .unset, .unset] [(.int 3), (.int 3)])) _
  refine XS.icmpNo X0.here hx rfl (hb hby at_79) rfl (teq (by decide : (3 : Int32) = (3 : Int32))).2 ?_
  show Steps p.tables e below (T0.setTop (mkF m 82 #[.val (.long q1), .second, .val (.int p2), .val (.int p3), .val (.int p4), .val (.int p5), .val (.long ord), .second, .val (.ref act), .val (.int 3), .val .null, .unset, .unset, .unset, .unset, .unset, .unset] [])) _
  refine st1 _ ?_
  show Steps p.tables e below (T1.setTop (mkF m 85 #[.val (.long q1), .second, .val (.int p2), .val (.int p3), .val (.int p4), .val (.int p5), .val (.long ord), .second, .val (.ref act), .val (.int 3), .val .null, .unset, .unset, .unset, .unset, .unset, .unset] [(.ref w_PRESENCE_OUT)])) _
  refine XS.astore X1.here hx rfl (hb hby at_85) rfl rfl (l' := #[.val (.long q1), .second, .val (.int p2), .val (.int p3), .val (.int p4), .val (.int p5), .val (.long ord), .second, .val (.ref act), .val (.int 3), .val (.ref w_PRESENCE_OUT), .unset, .unset, .unset, .unset, .unset, .unset]) rfl ?_
  show Steps p.tables e below (T1.setTop (mkF m 87 #[.val (.long q1), .second, .val (.int p2), .val (.int p3), .val (.int p4), .val (.int p5), .val (.long ord), .second, .val (.ref act), .val (.int 3), .val (.ref w_PRESENCE_OUT), .unset, .unset, .unset, .unset, .unset, .unset] [])) _
  exact kt
set_option maxRecDepth 65536 in
set_option maxHeartbeats 40000000 in
theorem pc0_B4 {p : Program} {l : Launch} {e : Env} {s : State} {m : MethodId} {args : Array Value} {below : List Frame} {meth : Method} {c : Code} {T0 : State} {locs : List Loc} {Z : State} {a0 : Array Value} {h0 : Heap} {n0 : Nat} (q1 : Int64) (p2 : Int32) (p3 : Int32) (p4 : Int32) (p5 : Int32) (ord : Int64) (act : Addr) (sc : Int32)
    (X0 : Stand p l e room_1 s m args below meth c T0 locs 0 0) (hx : p.tables.exec = Jvm.exec) (hZ : Z.Warmed39 s.vm) (hw : ∀ d ∈ tables_1, d.before a0 Z = true) (hby : c.code = code) (hml : c.maxLocals = 17) (hown : s.vm.findClass "com/example/stanza_filter/stanzafilter/engine/PrivacyItemGroupPinLaw" = some m.cls) (e0 : T0.heap = h0) (Z0 : n0 ≤ h0.size) (N0 : Fr n0 locs) (hsc : (((p2.toUInt32 >>> ((1 : Int32) &&& 31).toUInt32).toInt32) &&& (7 : Int32)) = sc) (hlo_sc : (3 : Int32) < sc) :
    ∃ (T' : State), Stand p l e room_1 s m args below meth c T' locs 0 0 ∧ T'.heap = h0 ∧ ∀ target, Steps p.tables e below (T'.setTop (mkF m 87 #[.val (.long q1), .second, .val (.int p2), .val (.int p3), .val (.int p4), .val (.int p5), .val (.long ord), .second, .val (.ref act), .val (.int sc), .val .null, .unset, .unset, .unset, .unset, .unset, .unset] [])) target → Steps p.tables e below (T0.setTop (mkF m 24 #[.val (.long q1), .second, .val (.int p2), .val (.int p3), .val (.int p4), .val (.int p5), .val (.long ord), .second, .val (.ref act), .unset, .unset, .unset, .unset, .unset, .unset, .unset, .unset] [])) target := by
  refine ⟨T0, X0, e0, fun target kt => ?_⟩
  show Steps p.tables e below (T0.setTop (mkF m 24 #[.val (.long q1), .second, .val (.int p2), .val (.int p3), .val (.int p4), .val (.int p5), .val (.long ord), .second, .val (.ref act), .unset, .unset, .unset, .unset, .unset, .unset, .unset, .unset] [])) _
  refine XS.iloadN X0.here hx rfl (hb hby at_24) rfl ?_
  show Steps p.tables e below (T0.setTop (mkF m 25 #[.val (.long q1), .second, .val (.int p2), .val (.int p3), .val (.int p4), .val (.int p5), .val (.long ord), .second, .val (.ref act), .unset, .unset, .unset, .unset, .unset, .unset, .unset, .unset] [(.int p2)])) _
  refine XS.iconst X0.here hx rfl (hb hby at_25) ?_
  show Steps p.tables e below (T0.setTop (mkF m 26 #[.val (.long q1), .second, .val (.int p2), .val (.int p3), .val (.int p4), .val (.int p5), .val (.long ord), .second, .val (.ref act), .unset, .unset, .unset, .unset, .unset, .unset, .unset, .unset] [(.int 1), (.int p2)])) _
  refine XS.iushr X0.here hx rfl (hb hby at_26) rfl ?_
  show Steps p.tables e below (T0.setTop (mkF m 27 #[.val (.long q1), .second, .val (.int p2), .val (.int p3), .val (.int p4), .val (.int p5), .val (.long ord), .second, .val (.ref act), .unset, .unset, .unset, .unset, .unset, .unset, .unset, .unset] [(.int ((p2.toUInt32 >>> ((1 : Int32) &&& 31).toUInt32).toInt32))])) _
  refine XS.bipush X0.here hx rfl (hb hby at_27) ?_
  show Steps p.tables e below (T0.setTop (mkF m 29 #[.val (.long q1), .second, .val (.int p2), .val (.int p3), .val (.int p4), .val (.int p5), .val (.long ord), .second, .val (.ref act), .unset, .unset, .unset, .unset, .unset, .unset, .unset, .unset] [(.int 7), (.int ((p2.toUInt32 >>> ((1 : Int32) &&& 31).toUInt32).toInt32))])) _
  refine XS.iand X0.here hx rfl (hb hby at_29) rfl ?_
  show Steps p.tables e below (T0.setTop (mkF m 30 #[.val (.long q1), .second, .val (.int p2), .val (.int p3), .val (.int p4), .val (.int p5), .val (.long ord), .second, .val (.ref act), .unset, .unset, .unset, .unset, .unset, .unset, .unset, .unset] [(.int (((p2.toUInt32 >>> ((1 : Int32) &&& 31).toUInt32).toInt32) &&& (7 : Int32)))])) _
  rw [hsc]
  show Steps p.tables e below (T0.setTop (mkF m 30 #[.val (.long q1), .second, .val (.int p2), .val (.int p3), .val (.int p4), .val (.int p5), .val (.long ord), .second, .val (.ref act), .unset, .unset, .unset, .unset, .unset, .unset, .unset, .unset] [(.int sc)])) _
  refine XS.istore X0.here hx rfl (hb hby at_30) rfl (l' := #[.val (.long q1), .second, .val (.int p2), .val (.int p3), .val (.int p4), .val (.int p5), .val (.long ord), .second, .val (.ref act), .val (.int sc), .unset, .unset, .unset, .unset, .unset, .unset, .unset]) rfl ?_
  show Steps p.tables e below (T0.setTop (mkF m 32 #[.val (.long q1), .second, .val (.int p2), .val (.int p3), .val (.int p4), .val (.int p5), .val (.long ord), .second, .val (.ref act), .val (.int sc), .unset, .unset, .unset, .unset, .unset, .unset, .unset] [])) _
  refine XS.aconstNull X0.here hx rfl (hb hby at_32) ?_
  show Steps p.tables e below (T0.setTop (mkF m 33 #[.val (.long q1), .second, .val (.int p2), .val (.int p3), .val (.int p4), .val (.int p5), .val (.long ord), .second, .val (.ref act), .val (.int sc), .unset, .unset, .unset, .unset, .unset, .unset, .unset] [.null])) _
  refine XS.astore X0.here hx rfl (hb hby at_33) rfl rfl (l' := #[.val (.long q1), .second, .val (.int p2), .val (.int p3), .val (.int p4), .val (.int p5), .val (.long ord), .second, .val (.ref act), .val (.int sc), .val .null, .unset, .unset, .unset, .unset, .unset, .unset]) rfl ?_
  show Steps p.tables e below (T0.setTop (mkF m 35 #[.val (.long q1), .second, .val (.int p2), .val (.int p3), .val (.int p4), .val (.int p5), .val (.long ord), .second, .val (.ref act), .val (.int sc), .val .null, .unset, .unset, .unset, .unset, .unset, .unset] [])) _
  refine XS.iload X0.here hx rfl (hb hby at_35) rfl ?_
  show Steps p.tables e below (T0.setTop (mkF m 37 #[.val (.long q1), .second, .val (.int p2), .val (.int p3), .val (.int p4), .val (.int p5), .val (.long ord), .second, .val (.ref act), .val (.int sc), .val .null, .unset, .unset, .unset, .unset, .unset, .unset] [(.int sc)])) _
  refine XS.ifYes X0.here hx rfl (pc0 := 37) (pc' := 48) rfl (hb hby at_37) rfl ((if0 _ _).trans (feq (own_nelo hlo_sc (by decide) : ¬ (sc = (0 : Int32)))).2) (by decide) (by decide) ?_
  show Steps p.tables e below (T0.setTop (mkF m 48 #[.val (.long q1), .second, .val (.int p2), .val (.int p3), .val (.int p4), .val (.int p5), .val (.long ord), .second, .val (.ref act), .val (.int sc), .val .null, .unset, .unset, .unset, .unset, .unset, .unset] [])) _
  refine XS.iload X0.here hx rfl (hb hby at_48) rfl ?_
  show Steps p.tables e below (T0.setTop (mkF m 50 #[.val (.long q1), .second, .val (.int p2), .val (.int p3), .val (.int p4), .val (.int p5), .val (.long ord), .second, .val (.ref act), .val (.int sc), .val .null, .unset, .unset, .unset, .unset, .unset, .unset] [(.int sc)])) _
  refine XS.iconst X0.here hx rfl (hb hby at_50) ?_
  show Steps p.tables e below (T0.setTop (mkF m 51 #[.val (.long q1), .second, .val (.int p2), .val (.int p3), .val (.int p4), .val (.int p5), .val (.long ord), .second, .val (.ref act), .val (.int sc), .val .null, .unset, .unset, .unset, .unset, .unset, .unset] [(.int 1), (.int sc)])) _
  refine XS.icmpYes X0.here hx rfl (pc0 := 51) (pc' := 62) rfl (hb hby at_51) rfl (feq (own_nelo hlo_sc (by decide) : ¬ (sc = (1 : Int32)))).2 (by decide) (by decide) ?_
  show Steps p.tables e below (T0.setTop (mkF m 62 #[.val (.long q1), .second, .val (.int p2), .val (.int p3), .val (.int p4), .val (.int p5), .val (.long ord), .second, .val (.ref act), .val (.int sc), .val .null, .unset, .unset, .unset, .unset, .unset, .unset] [])) _
  refine XS.iload X0.here hx rfl (hb hby at_62) rfl ?_
  show Steps p.tables e below (T0.setTop (mkF m 64 #[.val (.long q1), .second, .val (.int p2), .val (.int p3), .val (.int p4), .val (.int p5), .val (.long ord), .second, .val (.ref act), .val (.int sc), .val .null, .unset, .unset, .unset, .unset, .unset, .unset] [(.int sc)])) _
  refine XS.iconst X0.here hx rfl (hb hby at_64) ?_
  show Steps p.tables e below (T0.setTop (mkF m 65 #[.val (.long q1), .second, .val (.int p2), .val (.int p3), .val (.int p4), .val (.int p5), .val (.long ord), .second, .val (.ref act), .val (.int sc), .val .null, .unset, .unset, .unset, .unset, .unset, .unset] [(.int 2), (.int sc)])) _
  refine XS.icmpYes X0.here hx rfl (pc0 := 65) (pc' := 76) rfl (hb hby at_65) rfl (feq (own_nelo hlo_sc (by decide) : ¬ (sc = (2 : Int32)))).2 (by decide) (by decide) ?_
  show Steps p.tables e below (T0.setTop (mkF m 76 #[.val (.long q1), .second, .val (.int p2), .val (.int p3), .val (.int p4), .val (.int p5), .val (.long ord), .second, .val (.ref act), .val (.int sc), .val .null, .unset, .unset, .unset, .unset, .unset, .unset] [])) _
  refine XS.iload X0.here hx rfl (hb hby at_76) rfl ?_
  show Steps p.tables e below (T0.setTop (mkF m 78 #[.val (.long q1), .second, .val (.int p2), .val (.int p3), .val (.int p4), .val (.int p5), .val (.long ord), .second, .val (.ref act), .val (.int sc), .val .null, .unset, .unset, .unset, .unset, .unset, .unset] [(.int sc)])) _
  refine XS.iconst X0.here hx rfl (hb hby at_78) ?_
  show Steps p.tables e below (T0.setTop (mkF m 79 #[.val (.long q1), .second, .val (.int p2), .val (.int p3), .val (.int p4), .val (.int p5), .val (.long ord), .second, .val (.ref act), .val (.int sc), .val .null, .unset, .unset, .unset, .unset, .unset, .unset] [(.int 3), (.int sc)])) _
  refine XS.icmpYes X0.here hx rfl (pc0 := 79) (pc' := 87) rfl (hb hby at_79) rfl (feq (own_nelo hlo_sc (by decide) : ¬ (sc = (3 : Int32)))).2 (by decide) (by decide) ?_
  show Steps p.tables e below (T0.setTop (mkF m 87 #[.val (.long q1), .second, .val (.int p2), .val (.int p3), .val (.int p4), .val (.int p5), .val (.long ord), .second, .val (.ref act), .val (.int sc), .val .null, .unset, .unset, .unset, .unset, .unset, .unset] [])) _
  exact kt
def Q3_o1_o2_0_0_null (Z : State) (o1 : Addr) (o2 : Addr) (h0 : Heap) (n0 : Nat) (v : Option Value) (h : Heap) (L : List Loc) : Prop := ∃ (c1 : Addr), v = none ∧ Fr n0 L ∧ Keep h0 h [o1] ∧ Fld Z h o1 "java/lang/String" "value" "[B" (.ref c1) ∧ Exa Z h o1 "java/lang/String" ∧ Fld Z h o1 "java/lang/String" "coder" "B" (.int 0)
set_option maxRecDepth 65536 in
set_option maxHeartbeats 40000000 in
theorem rm3_o1_o2_0_0_null (l : Launch) (Z : State) (a0 : Array Value) (hw : ∀ d ∈ tables_1, d.before a0 Z = true) (ws : List Jvm.Cond) (o1 : Addr) (o2 : Addr) (h0 : Heap) (n0 : Nat) (Z0 : n0 ≤ h0.size) (F_value_o1 : Fld Z h0 o1 "java/lang/String" "value" "[B" .null) (E_o1 : Exa Z h0 o1 "java/lang/String") (g_o1 : n0 ≤ o1) (F_coder_o1 : Fld Z h0 o1 "java/lang/String" "coder" "B" (.int 0)) :
    MetFree l (⟨"java/lang/String", "<init>", "([CIILjava/lang/Void;)V"⟩ : MethodName) (head1 (Jvm.Cond.code (⟨"java/lang/String", "<init>", "([CIILjava/lang/Void;)V"⟩ : MethodName) jdk_42_method_149_code 6 none :: ws) ({ frames := 1, cells := 2, slots := 4, locals := 12 } : Room)) (fun a U => a = #[(.ref o1), (.ref o2), (.int 0), (.int 0), .null] ∧ Z.Warmed39 U.vm ∧ U.heap = h0 ∧ CHv Z own_EL U.vm h0) (fun _ _ _ _ _ => True) (fun _ U o U' => ∃ v L, o = .returned v ∧ Q3_o1_o2_0_0_null Z o1 o2 h0 n0 v U'.heap L ∧ CHr Z own_EL U.vm U.heap U'.vm U'.heap ∧ ReturnedEndW U o U' L ({ frames := 1, cells := 2, slots := 4, locals := 12 } : Room).cells ({ frames := 1, cells := 2, slots := 4, locals := 12 } : Room).slots) := by
  refine MetFree.of_bodySF (plainFor_of_name pn_3) hisR ?_
  intro p e s m args below meth c s₁ Bd hml0 hP hK
  obtain ⟨rfl, hZ, hh, H0⟩ := hP
  have C0 := CHr.refl H0
  have hx := Bd.exec
  have hby := Bd.bytes
  have hml : c.maxLocals = 6 := hml0
  have hown : s.vm.findClass "java/lang/String" = some m.cls := findClass_of_methodNamed Bd.named
  have hnm := (name_of_methodNamed Bd.named Bd.method).1
  have X0 : Stand p l e ({ frames := 1, cells := 2, slots := 4, locals := 12 } : Room) s m #[(.ref o1), (.ref o2), (.int 0), (.int 0), .null] below meth c s₁ [] 0 0 := Stand.of_body Bd
  have e0 : s₁.heap = h0 := by rw [← hh, Bd.state]; rfl
  have N0 := Fr.nil n0
  have pre0 : ∀ t, Steps p.tables e below (s₁.setTop (mkF m 0 #[.val (.ref o1), .val (.ref o2), .val (.int 0), .val (.int 0), .val .null, .unset] [])) t → Steps p.tables e below (s₁.setTop (entryFrame m #[(.ref o1), (.ref o2), (.int 0), (.int 0), .null] 6)) t := fun t k => castTop (by first | (simp [entryFrame, mkF, argsToLocals, Value.category]; done) | rfl) k
  obtain ⟨T1, X1, e1, st1⟩ := initO X0 hx hZ hown (hw _ (List.mem_of_getElem? (i := 22) rfl)) (hw _ (List.mem_of_getElem? (i := 23) rfl)) (hw _ (List.mem_of_getElem? (i := 24) rfl)) e0 (g := (mkF m 1 #[.val (.ref o1), .val (.ref o2), .val (.int 0), .val (.int 0), .val .null, .unset] [(.ref o1)])) rfl (by rw [hml]; rfl) rfl (hb hby d3_1) (by decide) (W := 0) (by show 2 * 0 + _ ≤ _; exact Nat.le_of_eq rfl) (by decide)
  have hZ2 : Z.Warmed39 T1.vm := wtrans hZ X1.warmed
  have hown2 : T1.vm.findClass "java/lang/String" = some m.cls := by rw [X1.warmed.alike.findClass]; exact hown
  have hS2 : s.Since T1.vm T1.heap.size := X1.warmed.since _
  have hk2 : T1.heap.size ≤ h0.size := own_geT e1
  have XR2 : Stand p l e _ (s.setVm T1.vm) m _ below meth c T1 _ _ _ := X1.retabled X1.warmed.wide
  have C2 := C0.trans (CHv.at (s := s) (vm0 := s.vm) (show Stand p l e _ (s.setVm s.vm) m _ below meth c T1 _ _ _ from X1) hZ (own_EW hw) C0.1)
  obtain ⟨u3, T3, h3, j3, uu3, ku3, X3, e3, E3, hS3, hk3, hZ3, hown3, Au3, Fc3, Fv3, Vu3, lu3, lb3, Cq3, Lt3, sf3, st3⟩ := ldcCH XR2 hx hZ2 hown2 (hw _ (List.mem_of_getElem? (i := 25) rfl)) (own_wS hw) e1 hS2 hk2 (own_EW hw) (by decide) C2.1 (vs := []) (z := (0 : Int32)) (by decide) (by decide) (by decide) (g := (mkF m 9 #[.val (.ref o1), .val (.ref o2), .val (.int 0), .val (.int 0), .val .null, .unset] [(.ref o1)])) rfl (hb hby d3_9) (n := 0) (by decide) (by decide) (by decide) (by decide)
  have C3 := C2.trans Cq3
  have K3 : Keep h0 h3 [o1] := (Keep.refl h0 [o1]).ext E3
  have nu_u3_o1 : u3 ≠ o1 := own_ne Fv3 (F_value_o1.ext E3) nofun
  have nb_o1_uu3 : o1 ≠ uu3 := Exa.neArv (E_o1.ext E3) Vu3 (hw _ (List.mem_of_getElem? (i := 12) rfl))
  obtain ⟨T4, X4, e4, st4⟩ := getF X3 hx hZ3 hown3 (host := "") (Or.inl (hw _ (List.mem_of_getElem? (i := 31) rfl))) Via.refl e3 Fv3 (g := (mkF m 11 #[.val (.ref o1), .val (.ref o2), .val (.int 0), .val (.int 0), .val .null, .unset] [(.ref u3), (.ref o1)])) rfl rfl (hb hby d3_11)
  obtain ⟨T5, h5, X5, e5, W5, st5⟩ := putF X4 hx hZ3 hown3 (host := "") (Or.inl (hw _ (List.mem_of_getElem? (i := 31) rfl))) Via.refl e4 (F_value_o1.ext E3) (E_o1.ext E3) (Or.inr ⟨(hw _ (List.mem_of_getElem? (i := 27) rfl)), rfl, hnm⟩) (hw _ (List.mem_of_getElem? (i := 12) rfl)) (ty := (.array .byte)) (by decide) rfl rfl (g := (mkF m 14 #[.val (.ref o1), .val (.ref o2), .val (.int 0), .val (.int 0), .val .null, .unset] [(.ref uu3), (.ref o1)])) rfl rfl (hb hby d3_14)
  have Fw5 := (F_value_o1.ext E3).same W5
  have N5 := Fr.snoc X5 N0 g_o1
  have Sf5 : Safe Z own_EL _ _ o1 := own_safe_null hZ3.alike (F_value_o1.ext E3) (E_o1.ext E3)
  have C5 := C3.trans (CHr.wr W5 Sf5 C3.1)
  have hkW5 := Nat.le_trans hk3 (Nat.le_of_eq W5.size.symm)
  have K5 : Keep h0 h5 [o1] := K3.wr W5 (Or.inl (List.mem_of_getElem? (i := 0) rfl))
  obtain ⟨T6, X6, e6, st6⟩ := getF X5 hx hZ3 hown3 (host := "") (Or.inl (hw _ (List.mem_of_getElem? (i := 32) rfl))) Via.refl e5 (Fc3.other W5 (Or.inl nu_u3_o1)) (g := (mkF m 20 #[.val (.ref o1), .val (.ref o2), .val (.int 0), .val (.int 0), .val .null, .unset] [(.ref u3), (.ref o1)])) rfl rfl (hb hby d3_20)
  obtain ⟨T7, h7, X7, e7, W7, st7⟩ := putFN X6 hx hZ3 hown3 (hw _ (List.mem_of_getElem? (i := 32) rfl)) Via.refl e6 ((F_coder_o1.ext E3).other W5 (Or.inr (slot_ne (Or.inr (hw _ (List.mem_of_getElem? (i := 28) rfl))) (Or.inr (hw _ (List.mem_of_getElem? (i := 27) rfl))) (by decide) (t := .byte) (t' := (.array .byte)) (by decide) (by decide)))) ((E_o1.ext E3).wr W5) (Or.inr ⟨(hw _ (List.mem_of_getElem? (i := 28) rfl)), rfl, hnm⟩) (hw _ (List.mem_of_getElem? (i := 12) rfl)) (ty := .byte) (v' := (.int 0)) (by decide) (by decide) (by decide) (g := (mkF m 23 #[.val (.ref o1), .val (.ref o2), .val (.int 0), .val (.int 0), .val .null, .unset] [(.int 0), (.ref o1)])) rfl rfl (hb hby d3_23)
  have Fw7 := ((F_coder_o1.ext E3).other W5 (Or.inr (slot_ne (Or.inr (hw _ (List.mem_of_getElem? (i := 28) rfl))) (Or.inr (hw _ (List.mem_of_getElem? (i := 27) rfl))) (by decide) (t := .byte) (t' := (.array .byte)) (by decide) (by decide)))).same W7
  have N7 := Fr.snoc X7 N5 g_o1
  have Sf7 := Safe.wr W5 Sf5 C3.1 Sf5
  have C7 := C5.trans (CHr.wr W7 Sf7 C5.1)
  have hkW7 := Nat.le_trans hkW5 (Nat.le_of_eq W7.size.symm)
  have K7 : Keep h0 h7 [o1] := K5.wr W7 (Or.inl (List.mem_of_getElem? (i := 0) rfl))
  obtain ⟨fs, hr, hrun, hended, hend⟩ := Stand.leaveW (s := s) X7 (v := none) hS3 (own_leT e7 hkW7) (fun _ => rfl)
  refine ⟨_, _, pre0 _ ?_, hrun, hended, _, _, rfl, ?_, own_CHr (T := T7) (vm1 := T7.vm) hh e7 (C7.trans (CHv.at (s := s) X7 hZ3 (own_EW hw) C7.1)), hend.1, hend.2.1, hend.2.2.1, hend.2.2.2.mono (by decide) (by decide)⟩
  · show Steps p.tables e below (s₁.setTop (mkF m 0 #[.val (.ref o1), .val (.ref o2), .val (.int 0), .val (.int 0), .val .null, .unset] [])) _
    refine XS.aloadN X0.here hx rfl (hb hby d3_0) rfl rfl ?_
    show Steps p.tables e below (s₁.setTop (mkF m 1 #[.val (.ref o1), .val (.ref o2), .val (.int 0), .val (.int 0), .val .null, .unset] [(.ref o1)])) _
    refine st1 _ ?_
    show Steps p.tables e below (T1.setTop (mkF m 4 #[.val (.ref o1), .val (.ref o2), .val (.int 0), .val (.int 0), .val .null, .unset] [])) _
    refine XS.iloadN X1.here hx rfl (hb hby d3_4) rfl ?_
    show Steps p.tables e below (T1.setTop (mkF m 5 #[.val (.ref o1), .val (.ref o2), .val (.int 0), .val (.int 0), .val .null, .unset] [(.int 0)])) _
    refine XS.ifNo X1.here hx rfl (hb hby d3_5) rfl ((if0 _ _).trans (teq (by decide : (0 : Int32) = (0 : Int32))).2) ?_
    show Steps p.tables e below (T1.setTop (mkF m 8 #[.val (.ref o1), .val (.ref o2), .val (.int 0), .val (.int 0), .val .null, .unset] [])) _
    refine XS.aloadN X1.here hx rfl (hb hby d3_8) rfl rfl ?_
    show Steps p.tables e below (T1.setTop (mkF m 9 #[.val (.ref o1), .val (.ref o2), .val (.int 0), .val (.int 0), .val .null, .unset] [(.ref o1)])) _
    refine st3 _ ?_
    show Steps p.tables e below (T3.setTop (mkF m 11 #[.val (.ref o1), .val (.ref o2), .val (.int 0), .val (.int 0), .val .null, .unset] [(.ref u3), (.ref o1)])) _
    refine st4 _ ?_
    show Steps p.tables e below (T4.setTop (mkF m 14 #[.val (.ref o1), .val (.ref o2), .val (.int 0), .val (.int 0), .val .null, .unset] [(.ref uu3), (.ref o1)])) _
    refine st5 _ ?_
    show Steps p.tables e below (T5.setTop (mkF m 17 #[.val (.ref o1), .val (.ref o2), .val (.int 0), .val (.int 0), .val .null, .unset] [])) _
    refine XS.aloadN X5.here hx rfl (hb hby d3_17) rfl rfl ?_
    show Steps p.tables e below (T5.setTop (mkF m 18 #[.val (.ref o1), .val (.ref o2), .val (.int 0), .val (.int 0), .val .null, .unset] [(.ref o1)])) _
    refine ldcAgain X5 hx hZ3 hown3 (hw _ (List.mem_of_getElem? (i := 25) rfl)) Lt3 (g := (mkF m 18 #[.val (.ref o1), .val (.ref o2), .val (.int 0), .val (.int 0), .val .null, .unset] [(.ref o1)])) rfl (hb hby d3_18) _ ?_
    show Steps p.tables e below (T5.setTop (mkF m 20 #[.val (.ref o1), .val (.ref o2), .val (.int 0), .val (.int 0), .val .null, .unset] [(.ref u3), (.ref o1)])) _
    refine st6 _ ?_
    show Steps p.tables e below (T6.setTop (mkF m 23 #[.val (.ref o1), .val (.ref o2), .val (.int 0), .val (.int 0), .val .null, .unset] [(.int 0), (.ref o1)])) _
    refine st7 _ ?_
    show Steps p.tables e below (T7.setTop (mkF m 26 #[.val (.ref o1), .val (.ref o2), .val (.int 0), .val (.int 0), .val .null, .unset] [])) _
    exact X7.returnOut hx Bd.returns (hb hby d3_26) hr
  · show Q3_o1_o2_0_0_null Z o1 o2 h0 n0 _ T7.heap _
    rw [e7]
    exact ⟨uu3, rfl, N7, K7, (Fw5.other W7 (Or.inr (slot_ne (Or.inr (hw _ (List.mem_of_getElem? (i := 27) rfl))) (Or.inr (hw _ (List.mem_of_getElem? (i := 28) rfl))) (by decide) (t := (.array .byte)) (t' := .byte) (by decide) (by decide)))), (((E_o1.ext E3).wr W5).wr W7), Fw7⟩
def Q2_o1_o2 (Z : State) (o1 : Addr) (o2 : Addr) (kk_o2 : ClassId) (h0 : Heap) (n0 : Nat) (v : Option Value) (h : Heap) (L : List Loc) : Prop := ∃ (c1 : Addr), v = none ∧ Fr n0 L ∧ Keep h0 h [o1] ∧ Exa Z h o1 "java/lang/String" ∧ Fld Z h o1 "java/lang/String" "value" "[B" (.ref c1) ∧ Fld Z h o1 "java/lang/String" "coder" "B" (.int 0)
set_option maxRecDepth 65536 in
set_option maxHeartbeats 40000000 in
theorem rm2_o1_o2 (l : Launch) (Z : State) (a0 : Array Value) (hw : ∀ d ∈ tables_1, d.before a0 Z = true) (ws : List Jvm.Cond) (o1 : Addr) (o2 : Addr) (kk_o2 : ClassId) (h0 : Heap) (n0 : Nat) (Z0 : n0 ≤ h0.size) (V_o2 : Arv Z h0 o2 kk_o2 .char (0 : Int32) [] (.int (0 : Int32))) (F_value_o1 : Fld Z h0 o1 "java/lang/String" "value" "[B" .null) (E_o1 : Exa Z h0 o1 "java/lang/String") (g_o1 : n0 ≤ o1) (F_coder_o1 : Fld Z h0 o1 "java/lang/String" "coder" "B" (.int 0)) :
    MetFree l (⟨"java/lang/String", "<init>", "([C)V"⟩ : MethodName) (head1 (Jvm.Cond.code (⟨"java/lang/String", "<init>", "([C)V"⟩ : MethodName) jdk_42_method_3_code 2 none :: ws) ({ frames := 2, cells := 2, slots := 4, locals := 29 } : Room)) (fun a U => a = #[(.ref o1), (.ref o2)] ∧ Z.Warmed39 U.vm ∧ U.heap = h0 ∧ CHv Z own_EL U.vm h0) (fun _ _ _ _ _ => True) (fun _ U o U' => ∃ v L, o = .returned v ∧ Q2_o1_o2 Z o1 o2 kk_o2 h0 n0 v U'.heap L ∧ CHr Z own_EL U.vm U.heap U'.vm U'.heap ∧ ReturnedEndW U o U' L ({ frames := 2, cells := 2, slots := 4, locals := 29 } : Room).cells ({ frames := 2, cells := 2, slots := 4, locals := 29 } : Room).slots) := by
  refine MetFree.of_bodySF (plainFor_of_name pn_2) hisR ?_
  intro p e s m args below meth c s₁ Bd hml0 hP hK
  obtain ⟨rfl, hZ, hh, H0⟩ := hP
  have C0 := CHr.refl H0
  have hx := Bd.exec
  have hby := Bd.bytes
  have hml : c.maxLocals = 2 := hml0
  have hown : s.vm.findClass "java/lang/String" = some m.cls := findClass_of_methodNamed Bd.named
  have hnm := (name_of_methodNamed Bd.named Bd.method).1
  have X0 : Stand p l e ({ frames := 2, cells := 2, slots := 4, locals := 29 } : Room) s m #[(.ref o1), (.ref o2)] below meth c s₁ [] 0 0 := Stand.of_body Bd
  have e0 : s₁.heap = h0 := by rw [← hh, Bd.state]; rfl
  have N0 := Fr.nil n0
  have pre0 : ∀ t, Steps p.tables e below (s₁.setTop (mkF m 0 #[.val (.ref o1), .val (.ref o2)] [])) t → Steps p.tables e below (s₁.setTop (entryFrame m #[(.ref o1), (.ref o2)] 2)) t := fun t k => castTop (by first | (simp [entryFrame, mkF, argsToLocals, Value.category]; done) | rfl) k
  have hZ2 : Z.Warmed39 s₁.vm := wtrans hZ X0.warmed
  have hown2 : s₁.vm.findClass "java/lang/String" = some m.cls := by rw [X0.warmed.alike.findClass]; exact hown
  have hS2 : s.Since s₁.vm s₁.heap.size := X0.warmed.since _
  have hk2 : s₁.heap.size ≤ h0.size := own_geT e0
  have XR2 : Stand p l e _ (s.setVm s₁.vm) m _ below meth c s₁ _ _ _ := X0.retabled X0.warmed.wide
  have C2 := C0.trans (CHv.at (s := s) (vm0 := s.vm) (show Stand p l e _ (s.setVm s.vm) m _ below meth c s₁ _ _ _ from X0) hZ (own_EW hw) C0.1)
  obtain ⟨_, _, ⟨T1, L1, k1, n1⟩, -, X1, hSq1, hgq1, ⟨Lc1, hQ1, l1, y1, z1, Cq1⟩, st1⟩ := XR2.specialBackS hx (y := (⟨"java/lang/String", "<init>", "([CIILjava/lang/Void;)V"⟩ : MethodName)) rfl hown2 (mvT hZ2 (hw _ (List.mem_of_getElem? (i := 18) rfl))) (mvT hZ2 (hw _ (List.mem_of_getElem? (i := 19) rfl))) (mvT hZ2 (hw _ (List.mem_of_getElem? (i := 21) rfl))) (by decide) (backOfSH (W := 0) (rm3_o1_o2_0_0_null l Z a0 hw [] o1 o2 h0 n0 Z0 F_value_o1 E_o1 g_o1 F_coder_o1) hZ2 (hw _ (List.mem_of_getElem? (i := 21) rfl)) (hw _ (List.mem_of_getElem? (i := 13) rfl)) (by decide) (by decide) (own_EW hw) C2.1) (g := (mkF m 6 #[.val (.ref o1), .val (.ref o2)] [.null, (.int 0), (.int 0), (.ref o2), (.ref o1)])) rfl (by rw [hml]; rfl) (Steps.refl _) (a := o1) (argsL := [(.ref o2), (.int 0), (.int 0), .null]) (rest := []) (lenOf pd___CIILjava_lang_Void__V rfl) rfl (by show 2 * 0 + _ ≤ _; exact Nat.le_of_eq rfl) (hb hby d2_6) (fun _ _ => ⟨rfl, e0, (by decide : 0 + 2 ≤ _), (by decide : 0 + 4 ≤ _)⟩)
  dsimp only [Pt.U, Pt.locs, Pt.cells, Pt.slots] at X1 l1 y1 z1 st1 hQ1 hSq1 hgq1 Cq1
  subst l1 y1 z1
  obtain ⟨u11, rfl, N1q, Kq1, fq1_0, fq1_1, fq1_2⟩ := hQ1
  have N1 := Fr.app N0 N1q
  have C1 := C2.trans Cq1
  have hS1 := foldS (T := s₁) hS2 (own_leT e0 hk2) hSq1 hgq1
  have hk1 : T1.heap.size ≤ T1.heap.size := Nat.le_refl _
  have hZ1 : Z.Warmed39 (s.setVm T1.vm).vm := State.Warmed39.trans (t := s.setVm _) hZ2 hSq1.1
  have hown1 : (s.setVm T1.vm).vm.findClass "java/lang/String" = some m.cls := by rw [show (s.setVm T1.vm).vm = T1.vm from rfl, hSq1.1.alike.findClass]; exact hown2
  have XW1 : Stand p l e _ (s.setVm T1.vm) m _ below meth c T1 _ _ _ := X1
  have K1 : Keep h0 T1.heap [o1] := (Keep.refl h0 [o1]).trans Kq1 (allS (Or.inl (List.mem_of_getElem? (i := 0) rfl)) all0)
  obtain ⟨fs, hr, hrun, hended, hend⟩ := Stand.leaveW (s := s) XW1 (v := none) hS1 (own_leT rfl hk1) (fun _ => rfl)
  refine ⟨_, _, pre0 _ ?_, hrun, hended, _, _, rfl, ?_, own_CHr (T := T1) (vm1 := T1.vm) hh rfl (C1.trans (CHv.at (s := s) XW1 hZ1 (own_EW hw) C1.1)), hend.1, hend.2.1, hend.2.2.1, hend.2.2.2.mono (by decide) (by decide)⟩
  · show Steps p.tables e below (s₁.setTop (mkF m 0 #[.val (.ref o1), .val (.ref o2)] [])) _
    refine XS.aloadN X0.here hx rfl (hb hby d2_0) rfl rfl ?_
    show Steps p.tables e below (s₁.setTop (mkF m 1 #[.val (.ref o1), .val (.ref o2)] [(.ref o1)])) _
    refine XS.aloadN X0.here hx rfl (hb hby d2_1) rfl rfl ?_
    show Steps p.tables e below (s₁.setTop (mkF m 2 #[.val (.ref o1), .val (.ref o2)] [(.ref o2), (.ref o1)])) _
    refine XS.iconst X0.here hx rfl (hb hby d2_2) ?_
    show Steps p.tables e below (s₁.setTop (mkF m 3 #[.val (.ref o1), .val (.ref o2)] [(.int 0), (.ref o2), (.ref o1)])) _
    refine XS.aloadN X0.here hx rfl (hb hby d2_3) rfl rfl ?_
    show Steps p.tables e below (s₁.setTop (mkF m 4 #[.val (.ref o1), .val (.ref o2)] [(.ref o2), (.int 0), (.ref o2), (.ref o1)])) _
    refine own_len X0 hx hZ e0 V_o2 (g := (mkF m 4 #[.val (.ref o1), .val (.ref o2)] [(.ref o2), (.int 0), (.ref o2), (.ref o1)])) rfl rfl (hb hby d2_4) _ ?_
    show Steps p.tables e below (s₁.setTop (mkF m 5 #[.val (.ref o1), .val (.ref o2)] [(.int 0), (.int 0), (.ref o2), (.ref o1)])) _
    refine XS.aconstNull X0.here hx rfl (hb hby d2_5) ?_
    show Steps p.tables e below (s₁.setTop (mkF m 6 #[.val (.ref o1), .val (.ref o2)] [.null, (.int 0), (.int 0), (.ref o2), (.ref o1)])) _
    refine st1.trans ?_
    show Steps p.tables e below (T1.setTop (mkF m 9 #[.val (.ref o1), .val (.ref o2)] [])) _
    exact XW1.returnOut hx Bd.returns (hb hby d2_9) hr
  · show Q2_o1_o2 Z o1 o2 kk_o2 h0 n0 _ T1.heap _
    exact ⟨u11, rfl, N1, K1, fq1_1, fq1_0, fq1_2⟩
def Q1_0_x0_x1_x2_m1_256_m1_256_m1_256 (Z : State) (x0 : Int32) (x1 : Int32) (x2 : Int32) (h0 : Heap) (n0 : Nat) (v : Option Value) (h : Heap) (L : List Loc) : Prop := ∃ (c1 : Addr), ∃ (c2 : Addr), v = some (.ref c1) ∧ Fr n0 L ∧ Keep h0 h [] ∧ h0.size ≤ c1 ∧ Exa Z h c1 "java/lang/String" ∧ Fld Z h c1 "java/lang/String" "value" "[B" (.ref c2) ∧ Fld Z h c1 "java/lang/String" "coder" "B" (.int 0)
set_option maxRecDepth 65536 in
set_option maxHeartbeats 40000000 in
theorem rm1_0_x0_x1_x2_m1_256_m1_256_m1_256 (l : Launch) (Z : State) (a0 : Array Value) (hw : ∀ d ∈ tables_1, d.before a0 Z = true) (ws : List Jvm.Cond) (x0 : Int32) (x1 : Int32) (x2 : Int32) (h0 : Heap) (n0 : Nat) (Z0 : n0 ≤ h0.size) :
    MetFree l (⟨"com/example/stanza_filter/stanzafilter/engine/PrivacyItemGroupPinLaw", "makeString", "(ICCC)Ljava/lang/String;"⟩ : MethodName) (head1 (Jvm.Cond.code (⟨"com/example/stanza_filter/stanzafilter/engine/PrivacyItemGroupPinLaw", "makeString", "(ICCC)Ljava/lang/String;"⟩ : MethodName) method_3_code 5 (some (.object "java/lang/String")) :: ws) ({ frames := 3, cells := 4, slots := 8, locals := 43 } : Room)) (fun a U => a = #[(.int 0), (.int x0), (.int x1), (.int x2)] ∧ Z.Warmed39 U.vm ∧ U.heap = h0 ∧ CHv Z own_EL U.vm h0) (fun _ _ _ _ _ => True) (fun _ U o U' => ∃ v L, o = .returned v ∧ Q1_0_x0_x1_x2_m1_256_m1_256_m1_256 Z x0 x1 x2 h0 n0 v U'.heap L ∧ CHr Z own_EL U.vm U.heap U'.vm U'.heap ∧ ReturnedEndW U o U' L ({ frames := 3, cells := 4, slots := 8, locals := 43 } : Room).cells ({ frames := 3, cells := 4, slots := 8, locals := 43 } : Room).slots) := by
  refine MetFree.of_bodySF (plainFor_of_name pn_1) hisR ?_
  intro p e s m args below meth c s₁ Bd hml0 hP hK
  obtain ⟨rfl, hZ, hh, H0⟩ := hP
  have C0 := CHr.refl H0
  have hx := Bd.exec
  have hby := Bd.bytes
  have hml : c.maxLocals = 5 := hml0
  have hown : s.vm.findClass "com/example/stanza_filter/stanzafilter/engine/PrivacyItemGroupPinLaw" = some m.cls := findClass_of_methodNamed Bd.named
  have hnm := (name_of_methodNamed Bd.named Bd.method).1
  have X0 : Stand p l e ({ frames := 3, cells := 4, slots := 8, locals := 43 } : Room) s m #[(.int 0), (.int x0), (.int x1), (.int x2)] below meth c s₁ [] 0 0 := Stand.of_body Bd
  have e0 : s₁.heap = h0 := by rw [← hh, Bd.state]; rfl
  have N0 := Fr.nil n0
  have pre0 : ∀ t, Steps p.tables e below (s₁.setTop (mkF m 0 #[.val (.int 0), .val (.int x0), .val (.int x1), .val (.int x2), .unset] [])) t → Steps p.tables e below (s₁.setTop (entryFrame m #[(.int 0), (.int x0), (.int x1), (.int x2)] 5)) t := fun t k => castTop (by first | (simp [entryFrame, mkF, argsToLocals, Value.category]; done) | rfl) k
  obtain ⟨T1, h1, X1, e1, E1, A1, D1, -, st1⟩ := newO X0 hx hZ hown (hw _ (List.mem_of_getElem? (i := 11) rfl)) (hw _ (List.mem_of_getElem? (i := 12) rfl)) (hw _ (List.mem_of_getElem? (i := 13) rfl)) e0 (g := (mkF m 4 #[.val (.int 0), .val (.int x0), .val (.int x1), .val (.int x2), .unset] [])) rfl (hb hby d1_4) (by decide) (by decide)
  obtain ⟨b1, g1⟩ : ∃ z, z = h0.size := ⟨_, rfl⟩
  have s_b1 : h0.size ≤ b1 := Nat.le_of_eq g1.symm
  have g_b1 : n0 ≤ b1 := Nat.le_trans Z0 s_b1
  have sz_b1 : h0.size ≤ b1 := s_b1
  rw [← g1] at A1 D1 st1
  have C1 := C0.trans (CHr.ext E1 C0.1)
  have K1 : Keep h0 h1 [] := (Keep.refl h0 []).ext E1
  have F_value_b1 : Fld Z h1 b1 "java/lang/String" "value" "[B" .null := D1 (Or.inr (hw _ (List.mem_of_getElem? (i := 27) rfl))) (ty := (.array .byte)) (by decide)
  have F_coder_b1 : Fld Z h1 b1 "java/lang/String" "coder" "B" (.int 0) := D1 (Or.inr (hw _ (List.mem_of_getElem? (i := 28) rfl))) (ty := .byte) (by decide)
  obtain ⟨T2, h2, k2, X2, e2, E2, A2, st2⟩ := newP X1 hx hZ (hw _ (List.mem_of_getElem? (i := 14) rfl)) e1 (g := (mkF m 9 #[.val (.int 0), .val (.int x0), .val (.int x1), .val (.int x2), .unset] [(.int 0), (.ref b1), (.ref b1)])) rfl (hb hby d1_9) rfl (by decide) (cap := 0) (by decide) (by decide) (by decide) (by decide)
  obtain ⟨b2, g2⟩ : ∃ z, z = h1.size := ⟨_, rfl⟩
  have s_b2 : h1.size ≤ b2 := Nat.le_of_eq g2.symm
  have g_b2 : n0 ≤ b2 := Nat.le_trans (Nat.le_trans Z0 K1.1) s_b2
  have sz_b2 : h0.size ≤ b2 := Nat.le_trans K1.1 s_b2
  rw [← g2] at A2 st2
  have C2 := C1.trans (CHr.ext E2 C1.1)
  have K2 : Keep h0 h2 [] := K1.ext E2
  have V_b2 : Arv Z h2 b2 k2 .char (0 : Int32) [] (.int (0 : Int32)) := (Arv.new A2 (by decide)).pad (pad_rep [] (.int (0 : Int32)) 0)
  have hZ4 : Z.Warmed39 T2.vm := wtrans hZ X2.warmed
  have hown4 : T2.vm.findClass "com/example/stanza_filter/stanzafilter/engine/PrivacyItemGroupPinLaw" = some m.cls := by rw [X2.warmed.alike.findClass]; exact hown
  have hS4 : s.Since T2.vm T2.heap.size := X2.warmed.since _
  have hk4 : T2.heap.size ≤ h2.size := own_geT e2
  have XR4 : Stand p l e _ (s.setVm T2.vm) m _ below meth c T2 _ _ _ := X2.retabled X2.warmed.wide
  have C4 := C2.trans (CHv.at (s := s) (vm0 := s.vm) (show Stand p l e _ (s.setVm s.vm) m _ below meth c T2 _ _ _ from X2) hZ (own_EW hw) C2.1)
  obtain ⟨_, _, ⟨T3, L3, k3, n3⟩, -, X3, hSq3, hgq3, ⟨Lc3, hQ3, l3, y3, z3, Cq3⟩, st3⟩ := XR4.specialBackS hx (y := (⟨"java/lang/String", "<init>", "([C)V"⟩ : MethodName)) rfl hown4 (mvT hZ4 (hw _ (List.mem_of_getElem? (i := 15) rfl))) (mvT hZ4 (hw _ (List.mem_of_getElem? (i := 16) rfl))) (mvT hZ4 (hw _ (List.mem_of_getElem? (i := 17) rfl))) (by decide) (backOfSH (W := 1) (rm2_o1_o2 l Z a0 hw [] b1 b2 k2 h2 n0 (Nat.le_trans Z0 K2.1) V_b2 (F_value_b1.ext E2) (A1.ext E2) g_b1 (F_coder_b1.ext E2)) hZ4 (hw _ (List.mem_of_getElem? (i := 17) rfl)) (hw _ (List.mem_of_getElem? (i := 13) rfl)) (by decide) (by decide) (own_EW hw) C4.1) (g := (mkF m 11 #[.val (.int 0), .val (.int x0), .val (.int x1), .val (.int x2), .unset] [(.ref b2), (.ref b1), (.ref b1)])) rfl (by rw [hml]; rfl) (Steps.refl _) (a := b1) (argsL := [(.ref b2)]) (rest := [(.ref b1)]) (lenOf pd___C_V rfl) rfl (by show 2 * 0 + _ ≤ _; exact Nat.le_of_eq rfl) (hb hby d1_11) (fun _ _ => ⟨rfl, e2, (by decide : 2 + 2 ≤ _), (by decide : 4 + 4 ≤ _)⟩)
  dsimp only [Pt.U, Pt.locs, Pt.cells, Pt.slots] at X3 l3 y3 z3 st3 hQ3 hSq3 hgq3 Cq3
  subst l3 y3 z3
  obtain ⟨u31, rfl, N3q, Kq3, fq3_0, fq3_1, fq3_2⟩ := hQ3
  have N3 := Fr.app N0 N3q
  have C3 := C4.trans Cq3
  have hS3 := foldS (T := T2) hS4 (own_leT e2 hk4) hSq3 hgq3
  have hk3 : T3.heap.size ≤ T3.heap.size := Nat.le_refl _
  have hZ3 : Z.Warmed39 (s.setVm T3.vm).vm := State.Warmed39.trans (t := s.setVm _) hZ4 hSq3.1
  have hown3 : (s.setVm T3.vm).vm.findClass "com/example/stanza_filter/stanzafilter/engine/PrivacyItemGroupPinLaw" = some m.cls := by rw [show (s.setVm T3.vm).vm = T3.vm from rfl, hSq3.1.alike.findClass]; exact hown4
  have XW3 : Stand p l e _ (s.setVm T3.vm) m _ below meth c T3 _ _ _ := X3
  have K3 : Keep h0 T3.heap [] := K2.trans Kq3 (allS (Or.inr sz_b1) all0)
  obtain ⟨fs, hr, hrun, hended, hend⟩ := Stand.leaveW (s := s) XW3 (v := some (.ref b1)) hS3 (own_leT rfl hk3) (fun h => by rw [Bd.returns] at h; cases h)
  refine ⟨_, _, pre0 _ ?_, hrun, hended, _, _, rfl, ?_, own_CHr (T := T3) (vm1 := T3.vm) hh rfl (C3.trans (CHv.at (s := s) XW3 hZ3 (own_EW hw) C3.1)), hend.1, hend.2.1, hend.2.2.1, hend.2.2.2.mono (by decide) (by decide)⟩
  · show Steps p.tables e below (s₁.setTop (mkF m 0 #[.val (.int 0), .val (.int x0), .val (.int x1), .val (.int x2), .unset] [])) _
    refine XS.iloadN X0.here hx rfl (hb hby d1_0) rfl ?_
    show Steps p.tables e below (s₁.setTop (mkF m 1 #[.val (.int 0), .val (.int x0), .val (.int x1), .val (.int x2), .unset] [(.int 0)])) _
    refine XS.ifNo X0.here hx rfl (hb hby d1_1) rfl ((if0 _ _).trans (teq (by decide : (0 : Int32) = (0 : Int32))).2) ?_
    show Steps p.tables e below (s₁.setTop (mkF m 4 #[.val (.int 0), .val (.int x0), .val (.int x1), .val (.int x2), .unset] [])) _
    refine st1 _ ?_
    show Steps p.tables e below (T1.setTop (mkF m 7 #[.val (.int 0), .val (.int x0), .val (.int x1), .val (.int x2), .unset] [(.ref b1)])) _
    refine XS.dup X1.here hx rfl (hb hby d1_7) rfl rfl ?_
    show Steps p.tables e below (T1.setTop (mkF m 8 #[.val (.int 0), .val (.int x0), .val (.int x1), .val (.int x2), .unset] [(.ref b1), (.ref b1)])) _
    refine XS.iconst X1.here hx rfl (hb hby d1_8) ?_
    show Steps p.tables e below (T1.setTop (mkF m 9 #[.val (.int 0), .val (.int x0), .val (.int x1), .val (.int x2), .unset] [(.int 0), (.ref b1), (.ref b1)])) _
    refine st2 _ ?_
    show Steps p.tables e below (T2.setTop (mkF m 11 #[.val (.int 0), .val (.int x0), .val (.int x1), .val (.int x2), .unset] [(.ref b2), (.ref b1), (.ref b1)])) _
    refine st3.trans ?_
    show Steps p.tables e below (T3.setTop (mkF m 14 #[.val (.int 0), .val (.int x0), .val (.int x1), .val (.int x2), .unset] [(.ref b1)])) _
    jvm_step XW3.here [XW3.here.top, hx, (hb hby d1_14), XW3.method', Bd.returns, Value.isRef, FieldType.isReference]
    first | (intro acts; rw [hr _ acts rfl rfl rfl]) | rw [hr _ _ rfl rfl rfl]
    exact Steps.refl _
  · show Q1_0_x0_x1_x2_m1_256_m1_256_m1_256 Z x0 x1 x2 h0 n0 _ T3.heap _
    exact ⟨b1, u31, rfl, N3, K3, sz_b1, fq3_0, fq3_1, fq3_2⟩
set_option maxRecDepth 65536 in
set_option maxHeartbeats 40000000 in
theorem pc0_C0 {p : Program} {l : Launch} {e : Env} {s : State} {m : MethodId} {args : Array Value} {below : List Frame} {meth : Method} {c : Code} {T0 : State} {locs : List Loc} {Z : State} {a0 : Array Value} {h0 : Heap} {n0 : Nat} (q1 : Int64) (p2 : Int32) (p3 : Int32) (p4 : Int32) (p5 : Int32) (ord : Int64) (act : Addr) (sc : Int32) (scv : Value) (x0 : Int32) (x1 : Int32) (x2 : Int32)
    (X0 : Stand p l e room_1 s m args below meth c T0 locs 0 0) (hx : p.tables.exec = Jvm.exec) (hZ : Z.Warmed39 s.vm) (hw : ∀ d ∈ tables_1, d.before a0 Z = true) (hby : c.code = code) (hml : c.maxLocals = 17) (hown : s.vm.findClass "com/example/stanza_filter/stanzafilter/engine/PrivacyItemGroupPinLaw" = some m.cls) (e0 : T0.heap = h0) (Z0 : n0 ≤ h0.size) (N0 : Fr n0 locs) (H0 : CHv Z own_EL s.vm h0) (hln : (((p2.toUInt32 >>> ((4 : Int32) &&& 31).toUInt32).toInt32) &&& (3 : Int32)) = (0 : Int32)) (hx0 : ((p3 &&& (255 : Int32)).toUInt32.toUInt16.toUInt32.toInt32) = x0) (hx1 : ((p4 &&& (255 : Int32)).toUInt32.toUInt16.toUInt32.toInt32) = x1) (hx2 : ((p5 &&& (255 : Int32)).toUInt32.toUInt16.toUInt32.toInt32) = x2) :
    ∃ (T' : State) (h' : Heap) (L' : List Loc) (vm' : Vm) (k' : Nat) (b1c1 : Addr), Stand p l e room_1 (s.setVm vm') m args below meth c T' L' 4 10 ∧ T'.heap = h' ∧ Keep h0 h' [] ∧ Fr n0 L' ∧ s.Since vm' k' ∧ k' ≤ h'.size ∧ Z.Warmed39 (s.setVm vm').vm ∧ (s.setVm vm').vm.findClass "com/example/stanza_filter/stanzafilter/engine/PrivacyItemGroupPinLaw" = some m.cls ∧ h0.size ≤ b1c1 ∧ Exa Z h' b1c1 "java/lang/String" ∧ ∀ target, Steps p.tables e below (T'.setTop (mkF m 133 #[.val (.long q1), .second, .val (.int p2), .val (.int p3), .val (.int p4), .val (.int p5), .val (.long ord), .second, .val (.ref act), .val (.int sc), .val scv, .val (.int 0), .val (.int x0), .val (.int x1), .val (.int x2), .val (.ref b1c1), .unset] [])) target → Steps p.tables e below (T0.setTop (mkF m 87 #[.val (.long q1), .second, .val (.int p2), .val (.int p3), .val (.int p4), .val (.int p5), .val (.long ord), .second, .val (.ref act), .val (.int sc), .val scv, .unset, .unset, .unset, .unset, .unset, .unset] [])) target := by
  have C0 := CHr.refl H0
  have hZ2 : Z.Warmed39 T0.vm := wtrans hZ X0.warmed
  have hown2 : T0.vm.findClass "com/example/stanza_filter/stanzafilter/engine/PrivacyItemGroupPinLaw" = some m.cls := by rw [X0.warmed.alike.findClass]; exact hown
  have hS2 : s.Since T0.vm T0.heap.size := X0.warmed.since _
  have hk2 : T0.heap.size ≤ h0.size := own_geT e0
  have XR2 : Stand p l e _ (s.setVm T0.vm) m _ below meth c T0 _ _ _ := X0.retabled X0.warmed.wide
  have C2 := C0.trans (CHv.at (s := s) (vm0 := s.vm) (show Stand p l e _ (s.setVm s.vm) m _ below meth c T0 _ _ _ from X0) hZ (own_EW hw) C0.1)
  obtain ⟨_, _, ⟨T1, L1, k1, n1⟩, -, X1, hSq1, hgq1, ⟨Lc1, hQ1, l1, y1, z1, Cq1⟩, st1⟩ := callSS XR2 hx (y := (⟨"com/example/stanza_filter/stanzafilter/engine/PrivacyItemGroupPinLaw", "makeString", "(ICCC)Ljava/lang/String;"⟩ : MethodName)) hown2 (mvT hZ2 (hw _ (List.mem_of_getElem? (i := 7) rfl))) (mvT hZ2 (hw _ (List.mem_of_getElem? (i := 8) rfl))) (mvT hZ2 (hw _ (List.mem_of_getElem? (i := 9) rfl))) (mvT hZ2 (hw _ (List.mem_of_getElem? (i := 10) rfl))) (by decide) (backOfSH (W := 0) (rm1_0_x0_x1_x2_m1_256_m1_256_m1_256 l Z a0 hw [] x0 x1 x2 h0 n0 Z0) hZ2 (hw _ (List.mem_of_getElem? (i := 10) rfl)) (hw _ (List.mem_of_getElem? (i := 9) rfl)) (by decide) (by decide) (own_EW hw) C2.1) (g := (mkF m 128 #[.val (.long q1), .second, .val (.int p2), .val (.int p3), .val (.int p4), .val (.int p5), .val (.long ord), .second, .val (.ref act), .val (.int sc), .val scv, .val (.int 0), .val (.int x0), .val (.int x1), .val (.int x2), .unset, .unset] [(.int x2), (.int x1), (.int x0), (.int 0)])) rfl (by rw [hml]; rfl) (argsL := [(.int 0), (.int x0), (.int x1), (.int x2)]) (rest := []) (lenOf pd__ICCC_Ljava_lang_String_ rfl) rfl (by show 2 * 0 + _ ≤ _; exact Nat.le_of_eq rfl) (hb hby at_128) (fun _ _ => ⟨rfl, e0, (by decide : 0 + 4 ≤ _), (by decide : 0 + 8 ≤ _)⟩)
  dsimp only [Pt.U, Pt.locs, Pt.cells, Pt.slots] at X1 l1 y1 z1 st1 hQ1 hSq1 hgq1 Cq1
  subst l1 y1 z1
  obtain ⟨b1c1, u12, rfl, N1q, Kq1, s_b1c1, fq1_0, fq1_1, fq1_2⟩ := hQ1
  have N1 := Fr.app N0 N1q
  have C1 := C2.trans Cq1
  have hS1 := foldS (T := T0) hS2 (own_leT e0 hk2) hSq1 hgq1
  have hk1 : T1.heap.size ≤ T1.heap.size := Nat.le_refl _
  have hZ1 : Z.Warmed39 (s.setVm T1.vm).vm := State.Warmed39.trans (t := s.setVm _) hZ2 hSq1.1
  have hown1 : (s.setVm T1.vm).vm.findClass "com/example/stanza_filter/stanzafilter/engine/PrivacyItemGroupPinLaw" = some m.cls := by rw [show (s.setVm T1.vm).vm = T1.vm from rfl, hSq1.1.alike.findClass]; exact hown2
  have XW1 : Stand p l e _ (s.setVm T1.vm) m _ below meth c T1 _ _ _ := X1
  have g_b1c1 : n0 ≤ b1c1 := Nat.le_trans Z0 s_b1c1
  have sz_b1c1 : h0.size ≤ b1c1 := s_b1c1
  have K1 : Keep h0 T1.heap [] := (Keep.refl h0 []).trans Kq1 all0
  refine ⟨T1, _, _, _, _, b1c1, (XW1.mono (by decide) (by decide)), rfl, K1, N1, hS1, hk1, hZ1, hown1, sz_b1c1, fq1_0, fun target kt => ?_⟩
  show Steps p.tables e below (T0.setTop (mkF m 87 #[.val (.long q1), .second, .val (.int p2), .val (.int p3), .val (.int p4), .val (.int p5), .val (.long ord), .second, .val (.ref act), .val (.int sc), .val scv, .unset, .unset, .unset, .unset, .unset, .unset] [])) _
  refine XS.iloadN X0.here hx rfl (hb hby at_87) rfl ?_
  show Steps p.tables e below (T0.setTop (mkF m 88 #[.val (.long q1), .second, .val (.int p2), .val (.int p3), .val (.int p4), .val (.int p5), .val (.long ord), .second, .val (.ref act), .val (.int sc), .val scv, .unset, .unset, .unset, .unset, .unset, .unset] [(.int p2)])) _
  refine XS.iconst X0.here hx rfl (hb hby at_88) ?_
  show Steps p.tables e below (T0.setTop (mkF m 89 #[.val (.long q1), .second, .val (.int p2), .val (.int p3), .val (.int p4), .val (.int p5), .val (.long ord), .second, .val (.ref act), .val (.int sc), .val scv, .unset, .unset, .unset, .unset, .unset, .unset] [(.int 4), (.int p2)])) _
  refine XS.iushr X0.here hx rfl (hb hby at_89) rfl ?_
  show Steps p.tables e below (T0.setTop (mkF m 90 #[.val (.long q1), .second, .val (.int p2), .val (.int p3), .val (.int p4), .val (.int p5), .val (.long ord), .second, .val (.ref act), .val (.int sc), .val scv, .unset, .unset, .unset, .unset, .unset, .unset] [(.int ((p2.toUInt32 >>> ((4 : Int32) &&& 31).toUInt32).toInt32))])) _
  refine XS.iconst X0.here hx rfl (hb hby at_90) ?_
  show Steps p.tables e below (T0.setTop (mkF m 91 #[.val (.long q1), .second, .val (.int p2), .val (.int p3), .val (.int p4), .val (.int p5), .val (.long ord), .second, .val (.ref act), .val (.int sc), .val scv, .unset, .unset, .unset, .unset, .unset, .unset] [(.int 3), (.int ((p2.toUInt32 >>> ((4 : Int32) &&& 31).toUInt32).toInt32))])) _
  refine XS.iand X0.here hx rfl (hb hby at_91) rfl ?_
  show Steps p.tables e below (T0.setTop (mkF m 92 #[.val (.long q1), .second, .val (.int p2), .val (.int p3), .val (.int p4), .val (.int p5), .val (.long ord), .second, .val (.ref act), .val (.int sc), .val scv, .unset, .unset, .unset, .unset, .unset, .unset] [(.int (((p2.toUInt32 >>> ((4 : Int32) &&& 31).toUInt32).toInt32) &&& (3 : Int32)))])) _
  rw [hln]
  show Steps p.tables e below (T0.setTop (mkF m 92 #[.val (.long q1), .second, .val (.int p2), .val (.int p3), .val (.int p4), .val (.int p5), .val (.long ord), .second, .val (.ref act), .val (.int sc), .val scv, .unset, .unset, .unset, .unset, .unset, .unset] [(.int 0)])) _
  refine XS.istore X0.here hx rfl (hb hby at_92) rfl (l' := #[.val (.long q1), .second, .val (.int p2), .val (.int p3), .val (.int p4), .val (.int p5), .val (.long ord), .second, .val (.ref act), .val (.int sc), .val scv, .val (.int 0), .unset, .unset, .unset, .unset, .unset]) rfl ?_
  show Steps p.tables e below (T0.setTop (mkF m 94 #[.val (.long q1), .second, .val (.int p2), .val (.int p3), .val (.int p4), .val (.int p5), .val (.long ord), .second, .val (.ref act), .val (.int sc), .val scv, .val (.int 0), .unset, .unset, .unset, .unset, .unset] [])) _
  refine XS.iloadN X0.here hx rfl (hb hby at_94) rfl ?_
  show Steps p.tables e below (T0.setTop (mkF m 95 #[.val (.long q1), .second, .val (.int p2), .val (.int p3), .val (.int p4), .val (.int p5), .val (.long ord), .second, .val (.ref act), .val (.int sc), .val scv, .val (.int 0), .unset, .unset, .unset, .unset, .unset] [(.int p3)])) _
  refine XS.sipush X0.here hx rfl (hb hby at_95) ?_
  show Steps p.tables e below (T0.setTop (mkF m 98 #[.val (.long q1), .second, .val (.int p2), .val (.int p3), .val (.int p4), .val (.int p5), .val (.long ord), .second, .val (.ref act), .val (.int sc), .val scv, .val (.int 0), .unset, .unset, .unset, .unset, .unset] [(.int 255), (.int p3)])) _
  refine XS.iand X0.here hx rfl (hb hby at_98) rfl ?_
  show Steps p.tables e below (T0.setTop (mkF m 99 #[.val (.long q1), .second, .val (.int p2), .val (.int p3), .val (.int p4), .val (.int p5), .val (.long ord), .second, .val (.ref act), .val (.int sc), .val scv, .val (.int 0), .unset, .unset, .unset, .unset, .unset] [(.int (p3 &&& (255 : Int32)))])) _
  refine XS.i2c X0.here hx rfl (hb hby at_99) rfl ?_
  show Steps p.tables e below (T0.setTop (mkF m 100 #[.val (.long q1), .second, .val (.int p2), .val (.int p3), .val (.int p4), .val (.int p5), .val (.long ord), .second, .val (.ref act), .val (.int sc), .val scv, .val (.int 0), .unset, .unset, .unset, .unset, .unset] [(.int ((p3 &&& (255 : Int32)).toUInt32.toUInt16.toUInt32.toInt32))])) _
  rw [hx0]
  show Steps p.tables e below (T0.setTop (mkF m 100 #[.val (.long q1), .second, .val (.int p2), .val (.int p3), .val (.int p4), .val (.int p5), .val (.long ord), .second, .val (.ref act), .val (.int sc), .val scv, .val (.int 0), .unset, .unset, .unset, .unset, .unset] [(.int x0)])) _
  refine XS.istore X0.here hx rfl (hb hby at_100) rfl (l' := #[.val (.long q1), .second, .val (.int p2), .val (.int p3), .val (.int p4), .val (.int p5), .val (.long ord), .second, .val (.ref act), .val (.int sc), .val scv, .val (.int 0), .val (.int x0), .unset, .unset, .unset, .unset]) rfl ?_
  show Steps p.tables e below (T0.setTop (mkF m 102 #[.val (.long q1), .second, .val (.int p2), .val (.int p3), .val (.int p4), .val (.int p5), .val (.long ord), .second, .val (.ref act), .val (.int sc), .val scv, .val (.int 0), .val (.int x0), .unset, .unset, .unset, .unset] [])) _
  refine XS.iload X0.here hx rfl (hb hby at_102) rfl ?_
  show Steps p.tables e below (T0.setTop (mkF m 104 #[.val (.long q1), .second, .val (.int p2), .val (.int p3), .val (.int p4), .val (.int p5), .val (.long ord), .second, .val (.ref act), .val (.int sc), .val scv, .val (.int 0), .val (.int x0), .unset, .unset, .unset, .unset] [(.int p4)])) _
  refine XS.sipush X0.here hx rfl (hb hby at_104) ?_
  show Steps p.tables e below (T0.setTop (mkF m 107 #[.val (.long q1), .second, .val (.int p2), .val (.int p3), .val (.int p4), .val (.int p5), .val (.long ord), .second, .val (.ref act), .val (.int sc), .val scv, .val (.int 0), .val (.int x0), .unset, .unset, .unset, .unset] [(.int 255), (.int p4)])) _
  refine XS.iand X0.here hx rfl (hb hby at_107) rfl ?_
  show Steps p.tables e below (T0.setTop (mkF m 108 #[.val (.long q1), .second, .val (.int p2), .val (.int p3), .val (.int p4), .val (.int p5), .val (.long ord), .second, .val (.ref act), .val (.int sc), .val scv, .val (.int 0), .val (.int x0), .unset, .unset, .unset, .unset] [(.int (p4 &&& (255 : Int32)))])) _
  refine XS.i2c X0.here hx rfl (hb hby at_108) rfl ?_
  show Steps p.tables e below (T0.setTop (mkF m 109 #[.val (.long q1), .second, .val (.int p2), .val (.int p3), .val (.int p4), .val (.int p5), .val (.long ord), .second, .val (.ref act), .val (.int sc), .val scv, .val (.int 0), .val (.int x0), .unset, .unset, .unset, .unset] [(.int ((p4 &&& (255 : Int32)).toUInt32.toUInt16.toUInt32.toInt32))])) _
  rw [hx1]
  show Steps p.tables e below (T0.setTop (mkF m 109 #[.val (.long q1), .second, .val (.int p2), .val (.int p3), .val (.int p4), .val (.int p5), .val (.long ord), .second, .val (.ref act), .val (.int sc), .val scv, .val (.int 0), .val (.int x0), .unset, .unset, .unset, .unset] [(.int x1)])) _
  refine XS.istore X0.here hx rfl (hb hby at_109) rfl (l' := #[.val (.long q1), .second, .val (.int p2), .val (.int p3), .val (.int p4), .val (.int p5), .val (.long ord), .second, .val (.ref act), .val (.int sc), .val scv, .val (.int 0), .val (.int x0), .val (.int x1), .unset, .unset, .unset]) rfl ?_
  show Steps p.tables e below (T0.setTop (mkF m 111 #[.val (.long q1), .second, .val (.int p2), .val (.int p3), .val (.int p4), .val (.int p5), .val (.long ord), .second, .val (.ref act), .val (.int sc), .val scv, .val (.int 0), .val (.int x0), .val (.int x1), .unset, .unset, .unset] [])) _
  refine XS.iload X0.here hx rfl (hb hby at_111) rfl ?_
  show Steps p.tables e below (T0.setTop (mkF m 113 #[.val (.long q1), .second, .val (.int p2), .val (.int p3), .val (.int p4), .val (.int p5), .val (.long ord), .second, .val (.ref act), .val (.int sc), .val scv, .val (.int 0), .val (.int x0), .val (.int x1), .unset, .unset, .unset] [(.int p5)])) _
  refine XS.sipush X0.here hx rfl (hb hby at_113) ?_
  show Steps p.tables e below (T0.setTop (mkF m 116 #[.val (.long q1), .second, .val (.int p2), .val (.int p3), .val (.int p4), .val (.int p5), .val (.long ord), .second, .val (.ref act), .val (.int sc), .val scv, .val (.int 0), .val (.int x0), .val (.int x1), .unset, .unset, .unset] [(.int 255), (.int p5)])) _
  refine XS.iand X0.here hx rfl (hb hby at_116) rfl ?_
  show Steps p.tables e below (T0.setTop (mkF m 117 #[.val (.long q1), .second, .val (.int p2), .val (.int p3), .val (.int p4), .val (.int p5), .val (.long ord), .second, .val (.ref act), .val (.int sc), .val scv, .val (.int 0), .val (.int x0), .val (.int x1), .unset, .unset, .unset] [(.int (p5 &&& (255 : Int32)))])) _
  refine XS.i2c X0.here hx rfl (hb hby at_117) rfl ?_
  show Steps p.tables e below (T0.setTop (mkF m 118 #[.val (.long q1), .second, .val (.int p2), .val (.int p3), .val (.int p4), .val (.int p5), .val (.long ord), .second, .val (.ref act), .val (.int sc), .val scv, .val (.int 0), .val (.int x0), .val (.int x1), .unset, .unset, .unset] [(.int ((p5 &&& (255 : Int32)).toUInt32.toUInt16.toUInt32.toInt32))])) _
  rw [hx2]
  show Steps p.tables e below (T0.setTop (mkF m 118 #[.val (.long q1), .second, .val (.int p2), .val (.int p3), .val (.int p4), .val (.int p5), .val (.long ord), .second, .val (.ref act), .val (.int sc), .val scv, .val (.int 0), .val (.int x0), .val (.int x1), .unset, .unset, .unset] [(.int x2)])) _
  refine XS.istore X0.here hx rfl (hb hby at_118) rfl (l' := #[.val (.long q1), .second, .val (.int p2), .val (.int p3), .val (.int p4), .val (.int p5), .val (.long ord), .second, .val (.ref act), .val (.int sc), .val scv, .val (.int 0), .val (.int x0), .val (.int x1), .val (.int x2), .unset, .unset]) rfl ?_
  show Steps p.tables e below (T0.setTop (mkF m 120 #[.val (.long q1), .second, .val (.int p2), .val (.int p3), .val (.int p4), .val (.int p5), .val (.long ord), .second, .val (.ref act), .val (.int sc), .val scv, .val (.int 0), .val (.int x0), .val (.int x1), .val (.int x2), .unset, .unset] [])) _
  refine XS.iload X0.here hx rfl (hb hby at_120) rfl ?_
  show Steps p.tables e below (T0.setTop (mkF m 122 #[.val (.long q1), .second, .val (.int p2), .val (.int p3), .val (.int p4), .val (.int p5), .val (.long ord), .second, .val (.ref act), .val (.int sc), .val scv, .val (.int 0), .val (.int x0), .val (.int x1), .val (.int x2), .unset, .unset] [(.int 0)])) _
  refine XS.iload X0.here hx rfl (hb hby at_122) rfl ?_
  show Steps p.tables e below (T0.setTop (mkF m 124 #[.val (.long q1), .second, .val (.int p2), .val (.int p3), .val (.int p4), .val (.int p5), .val (.long ord), .second, .val (.ref act), .val (.int sc), .val scv, .val (.int 0), .val (.int x0), .val (.int x1), .val (.int x2), .unset, .unset] [(.int x0), (.int 0)])) _
  refine XS.iload X0.here hx rfl (hb hby at_124) rfl ?_
  show Steps p.tables e below (T0.setTop (mkF m 126 #[.val (.long q1), .second, .val (.int p2), .val (.int p3), .val (.int p4), .val (.int p5), .val (.long ord), .second, .val (.ref act), .val (.int sc), .val scv, .val (.int 0), .val (.int x0), .val (.int x1), .val (.int x2), .unset, .unset] [(.int x1), (.int x0), (.int 0)])) _
  refine XS.iload X0.here hx rfl (hb hby at_126) rfl ?_
  show Steps p.tables e below (T0.setTop (mkF m 128 #[.val (.long q1), .second, .val (.int p2), .val (.int p3), .val (.int p4), .val (.int p5), .val (.long ord), .second, .val (.ref act), .val (.int sc), .val scv, .val (.int 0), .val (.int x0), .val (.int x1), .val (.int x2), .unset, .unset] [(.int x2), (.int x1), (.int x0), (.int 0)])) _
  refine st1.trans ?_
  show Steps p.tables e below (T1.setTop (mkF m 131 #[.val (.long q1), .second, .val (.int p2), .val (.int p3), .val (.int p4), .val (.int p5), .val (.long ord), .second, .val (.ref act), .val (.int sc), .val scv, .val (.int 0), .val (.int x0), .val (.int x1), .val (.int x2), .unset, .unset] [(.ref b1c1)])) _
  refine XS.astore XW1.here hx rfl (hb hby at_131) rfl rfl (l' := #[.val (.long q1), .second, .val (.int p2), .val (.int p3), .val (.int p4), .val (.int p5), .val (.long ord), .second, .val (.ref act), .val (.int sc), .val scv, .val (.int 0), .val (.int x0), .val (.int x1), .val (.int x2), .val (.ref b1c1), .unset]) rfl ?_
  show Steps p.tables e below (T1.setTop (mkF m 133 #[.val (.long q1), .second, .val (.int p2), .val (.int p3), .val (.int p4), .val (.int p5), .val (.long ord), .second, .val (.ref act), .val (.int sc), .val scv, .val (.int 0), .val (.int x0), .val (.int x1), .val (.int x2), .val (.ref b1c1), .unset] [])) _
  exact kt
def Q19_o1_0_o2_0_1 (Z : State) (o1 : Addr) (o2 : Addr) (kk_o1 : ClassId) (x0 : Int32) (kk_o2 : ClassId) (h0 : Heap) (n0 : Nat) (v : Option Value) (h : Heap) (L : List Loc) : Prop := v = some (.int 1) ∧ Fr n0 L ∧ Keep h0 h [o2] ∧ Arv Z h o2 kk_o2 .byte (1 : Int32) [(.int (nar .byte (x0.toInt8.toInt32)))] (.int (0 : Int32))
set_option maxRecDepth 65536 in
set_option maxHeartbeats 40000000 in
theorem rm19_o1_0_o2_0_1 (l : Launch) (Z : State) (a0 : Array Value) (hw : ∀ d ∈ tables_1, d.before a0 Z = true) (ws : List Jvm.Cond) (o1 : Addr) (o2 : Addr) (kk_o1 : ClassId) (x0 : Int32) (kk_o2 : ClassId) (h0 : Heap) (n0 : Nat) (Z0 : n0 ≤ h0.size) (V_o1 : Arv Z h0 o1 kk_o1 .char (1 : Int32) [(.int x0)] (.int (0 : Int32))) (hhi_x0 : x0 < (256 : Int32)) (V_o2 : Arv Z h0 o2 kk_o2 .byte (1 : Int32) [(.int 0)] (.int (0 : Int32))) (g_o2 : n0 ≤ o2) :
    MetFree l (⟨"java/lang/StringUTF16", "compress", "([CI[BII)I"⟩ : MethodName) (head1 (Jvm.Cond.code (⟨"java/lang/StringUTF16", "compress", "([CI[BII)I"⟩ : MethodName) jdk_52_method_21_code 7 (some .int) :: ws) ({ frames := 0, cells := 0, slots := 0, locals := 0 } : Room)) (fun a U => a = #[(.ref o1), (.int 0), (.ref o2), (.int 0), (.int 1)] ∧ Z.Warmed39 U.vm ∧ U.heap = h0) (fun _ _ _ _ _ => True) (fun _ U o U' => ∃ v L, o = .returned v ∧ Q19_o1_0_o2_0_1 Z o1 o2 kk_o1 x0 kk_o2 h0 n0 v U'.heap L ∧ FrameEnd U o U' L ({ frames := 0, cells := 0, slots := 0, locals := 0 } : Room).cells ({ frames := 0, cells := 0, slots := 0, locals := 0 } : Room).slots) := by
  refine MetFree.of_bodySF (plainFor_of_name pn_19) hisR ?_
  intro p e s m args below meth c s₁ Bd hml0 hP hK
  obtain ⟨rfl, hZ, hh⟩ := hP
  have hx := Bd.exec
  have hby := Bd.bytes
  have hml : c.maxLocals = 7 := hml0
  have hown : s.vm.findClass "java/lang/StringUTF16" = some m.cls := findClass_of_methodNamed Bd.named
  have hnm := (name_of_methodNamed Bd.named Bd.method).1
  have X0 : Stand p l e ({ frames := 0, cells := 0, slots := 0, locals := 0 } : Room) s m #[(.ref o1), (.int 0), (.ref o2), (.int 0), (.int 1)] below meth c s₁ [] 0 0 := Stand.of_body Bd
  have e0 : s₁.heap = h0 := by rw [← hh, Bd.state]; rfl
  have N0 := Fr.nil n0
  have pre0 : ∀ t, Steps p.tables e below (s₁.setTop (mkF m 0 #[.val (.ref o1), .val (.int 0), .val (.ref o2), .val (.int 0), .val (.int 1), .unset, .unset] [])) t → Steps p.tables e below (s₁.setTop (entryFrame m #[(.ref o1), (.int 0), (.ref o2), (.int 0), (.int 1)] 7)) t := fun t k => castTop (by first | (simp [entryFrame, mkF, argsToLocals, Value.category]; done) | rfl) k
  obtain ⟨T1, h1, X1, e1, W1, Vw1, st1⟩ := own_stB X0 hx hZ e0 V_o2 0 rfl ⟨by decide, by decide⟩ (Nat.le_of_ble_eq_true rfl) (g := (mkF m 31 #[.val (.ref o1), .val (.int 0), .val (.ref o2), .val (.int 0), .val (.int 1), .val (.int 0), .val (.int x0)] [(.int (x0.toInt8.toInt32)), (.int 0), (.ref o2)])) rfl rfl (hb hby d19_31)
  have N1 := Fr.snoc X1 N0 g_o2
  have K1 : Keep h0 h1 [o2] := (Keep.refl h0 [o2]).wr W1 (Or.inl (List.mem_of_getElem? (i := 0) rfl))
  have V1_o2 : Arv Z h1 o2 kk_o2 .byte (1 : Int32) [(.int (nar .byte (x0.toInt8.toInt32)))] (.int (0 : Int32)) := Vw1
  obtain ⟨fs, hr, hrun, hended, hW, hsame⟩ := X1.leave (v := some (.int 1)) (fun h => by rw [Bd.returns] at h; cases h)
  refine ⟨_, _, pre0 _ ?_, hrun, hended, _, _, rfl, ?_, ⟨_, rfl⟩, hW, hsame.mono (by decide) (by decide)⟩
  · show Steps p.tables e below (s₁.setTop (mkF m 0 #[.val (.ref o1), .val (.int 0), .val (.ref o2), .val (.int 0), .val (.int 1), .unset, .unset] [])) _
    refine XS.iconst X0.here hx rfl (hb hby d19_0) ?_
    show Steps p.tables e below (s₁.setTop (mkF m 1 #[.val (.ref o1), .val (.int 0), .val (.ref o2), .val (.int 0), .val (.int 1), .unset, .unset] [(.int 0)])) _
    refine XS.istore X0.here hx rfl (hb hby d19_1) rfl (l' := #[.val (.ref o1), .val (.int 0), .val (.ref o2), .val (.int 0), .val (.int 1), .val (.int 0), .unset]) rfl ?_
    show Steps p.tables e below (s₁.setTop (mkF m 3 #[.val (.ref o1), .val (.int 0), .val (.ref o2), .val (.int 0), .val (.int 1), .val (.int 0), .unset] [])) _
    refine XS.iload X0.here hx rfl (hb hby d19_3) rfl ?_
    show Steps p.tables e below (s₁.setTop (mkF m 5 #[.val (.ref o1), .val (.int 0), .val (.ref o2), .val (.int 0), .val (.int 1), .val (.int 0), .unset] [(.int 0)])) _
    refine XS.iload X0.here hx rfl (hb hby d19_5) rfl ?_
    show Steps p.tables e below (s₁.setTop (mkF m 7 #[.val (.ref o1), .val (.int 0), .val (.ref o2), .val (.int 0), .val (.int 1), .val (.int 0), .unset] [(.int 1), (.int 0)])) _
    refine XS.icmpNo X0.here hx rfl (hb hby d19_7) rfl (tlt (by decide : (0 : Int32) < (1 : Int32))).2.1 ?_
    show Steps p.tables e below (s₁.setTop (mkF m 10 #[.val (.ref o1), .val (.int 0), .val (.ref o2), .val (.int 0), .val (.int 1), .val (.int 0), .unset] [])) _
    refine XS.aloadN X0.here hx rfl (hb hby d19_10) rfl rfl ?_
    show Steps p.tables e below (s₁.setTop (mkF m 11 #[.val (.ref o1), .val (.int 0), .val (.ref o2), .val (.int 0), .val (.int 1), .val (.int 0), .unset] [(.ref o1)])) _
    refine XS.iloadN X0.here hx rfl (hb hby d19_11) rfl ?_
    show Steps p.tables e below (s₁.setTop (mkF m 12 #[.val (.ref o1), .val (.int 0), .val (.ref o2), .val (.int 0), .val (.int 1), .val (.int 0), .unset] [(.int 0), (.ref o1)])) _
    refine own_ldC X0 hx hZ e0 V_o1 (j := (0 : Int32)) ⟨by decide, by decide⟩ rfl (g := (mkF m 12 #[.val (.ref o1), .val (.int 0), .val (.ref o2), .val (.int 0), .val (.int 1), .val (.int 0), .unset] [(.int 0), (.ref o1)])) rfl rfl (hb hby d19_12) _ ?_
    show Steps p.tables e below (s₁.setTop (mkF m 13 #[.val (.ref o1), .val (.int 0), .val (.ref o2), .val (.int 0), .val (.int 1), .val (.int 0), .unset] [(.int x0)])) _
    refine XS.istore X0.here hx rfl (hb hby d19_13) rfl (l' := #[.val (.ref o1), .val (.int 0), .val (.ref o2), .val (.int 0), .val (.int 1), .val (.int 0), .val (.int x0)]) rfl ?_
    show Steps p.tables e below (s₁.setTop (mkF m 15 #[.val (.ref o1), .val (.int 0), .val (.ref o2), .val (.int 0), .val (.int 1), .val (.int 0), .val (.int x0)] [])) _
    refine XS.iload X0.here hx rfl (hb hby d19_15) rfl ?_
    show Steps p.tables e below (s₁.setTop (mkF m 17 #[.val (.ref o1), .val (.int 0), .val (.ref o2), .val (.int 0), .val (.int 1), .val (.int 0), .val (.int x0)] [(.int x0)])) _
    refine XS.sipush X0.here hx rfl (hb hby d19_17) ?_
    show Steps p.tables e below (s₁.setTop (mkF m 20 #[.val (.ref o1), .val (.int 0), .val (.ref o2), .val (.int 0), .val (.int 1), .val (.int 0), .val (.int x0)] [(.int 255), (.int x0)])) _
    refine XS.icmpYes X0.here hx rfl (pc0 := 20) (pc' := 26) rfl (hb hby d19_20) rfl (flt (own_ngt hhi_x0 (by decide) : ¬ ((255 : Int32) < x0))).2.2.2 (by decide) (by decide) ?_
    show Steps p.tables e below (s₁.setTop (mkF m 26 #[.val (.ref o1), .val (.int 0), .val (.ref o2), .val (.int 0), .val (.int 1), .val (.int 0), .val (.int x0)] [])) _
    refine XS.aloadN X0.here hx rfl (hb hby d19_26) rfl rfl ?_
    show Steps p.tables e below (s₁.setTop (mkF m 27 #[.val (.ref o1), .val (.int 0), .val (.ref o2), .val (.int 0), .val (.int 1), .val (.int 0), .val (.int x0)] [(.ref o2)])) _
    refine XS.iloadN X0.here hx rfl (hb hby d19_27) rfl ?_
    show Steps p.tables e below (s₁.setTop (mkF m 28 #[.val (.ref o1), .val (.int 0), .val (.ref o2), .val (.int 0), .val (.int 1), .val (.int 0), .val (.int x0)] [(.int 0), (.ref o2)])) _
    refine XS.iload X0.here hx rfl (hb hby d19_28) rfl ?_
    show Steps p.tables e below (s₁.setTop (mkF m 30 #[.val (.ref o1), .val (.int 0), .val (.ref o2), .val (.int 0), .val (.int 1), .val (.int 0), .val (.int x0)] [(.int x0), (.int 0), (.ref o2)])) _
    refine XS.i2b X0.here hx rfl (hb hby d19_30) rfl ?_
    show Steps p.tables e below (s₁.setTop (mkF m 31 #[.val (.ref o1), .val (.int 0), .val (.ref o2), .val (.int 0), .val (.int 1), .val (.int 0), .val (.int x0)] [(.int (x0.toInt8.toInt32)), (.int 0), (.ref o2)])) _
    refine st1 _ ?_
    show Steps p.tables e below (T1.setTop (mkF m 32 #[.val (.ref o1), .val (.int 0), .val (.ref o2), .val (.int 0), .val (.int 1), .val (.int 0), .val (.int x0)] [])) _
    refine XS.iinc X1.here hx rfl (hb hby d19_32) rfl (l' := #[.val (.ref o1), .val (.int ((0 : Int32) + (1 : Int32))), .val (.ref o2), .val (.int 0), .val (.int 1), .val (.int 0), .val (.int x0)]) rfl ?_
    show Steps p.tables e below (T1.setTop (mkF m 35 #[.val (.ref o1), .val (.int ((0 : Int32) + (1 : Int32))), .val (.ref o2), .val (.int 0), .val (.int 1), .val (.int 0), .val (.int x0)] [])) _
    rw [(by decide : ((0 : Int32) + (1 : Int32)) = (1 : Int32))]
    show Steps p.tables e below (T1.setTop (mkF m 35 #[.val (.ref o1), .val (.int 1), .val (.ref o2), .val (.int 0), .val (.int 1), .val (.int 0), .val (.int x0)] [])) _
    refine XS.iinc X1.here hx rfl (hb hby d19_35) rfl (l' := #[.val (.ref o1), .val (.int 1), .val (.ref o2), .val (.int ((0 : Int32) + (1 : Int32))), .val (.int 1), .val (.int 0), .val (.int x0)]) rfl ?_
    show Steps p.tables e below (T1.setTop (mkF m 38 #[.val (.ref o1), .val (.int 1), .val (.ref o2), .val (.int ((0 : Int32) + (1 : Int32))), .val (.int 1), .val (.int 0), .val (.int x0)] [])) _
    rw [(by decide : ((0 : Int32) + (1 : Int32)) = (1 : Int32))]
    show Steps p.tables e below (T1.setTop (mkF m 38 #[.val (.ref o1), .val (.int 1), .val (.ref o2), .val (.int 1), .val (.int 1), .val (.int 0), .val (.int x0)] [])) _
    refine XS.iinc X1.here hx rfl (hb hby d19_38) rfl (l' := #[.val (.ref o1), .val (.int 1), .val (.ref o2), .val (.int 1), .val (.int 1), .val (.int ((0 : Int32) + (1 : Int32))), .val (.int x0)]) rfl ?_
    show Steps p.tables e below (T1.setTop (mkF m 41 #[.val (.ref o1), .val (.int 1), .val (.ref o2), .val (.int 1), .val (.int 1), .val (.int ((0 : Int32) + (1 : Int32))), .val (.int x0)] [])) _
    rw [(by decide : ((0 : Int32) + (1 : Int32)) = (1 : Int32))]
    show Steps p.tables e below (T1.setTop (mkF m 41 #[.val (.ref o1), .val (.int 1), .val (.ref o2), .val (.int 1), .val (.int 1), .val (.int 1), .val (.int x0)] [])) _
    refine XS.goto X1.here hx rfl (pc0 := 41) (pc' := 3) rfl (hb hby d19_41) (by decide) (by decide) ?_
    show Steps p.tables e below (T1.setTop (mkF m 3 #[.val (.ref o1), .val (.int 1), .val (.ref o2), .val (.int 1), .val (.int 1), .val (.int 1), .val (.int x0)] [])) _
    refine XS.iload X1.here hx rfl (hb hby d19_3) rfl ?_
    show Steps p.tables e below (T1.setTop (mkF m 5 #[.val (.ref o1), .val (.int 1), .val (.ref o2), .val (.int 1), .val (.int 1), .val (.int 1), .val (.int x0)] [(.int 1)])) _
    refine XS.iload X1.here hx rfl (hb hby d19_5) rfl ?_
    show Steps p.tables e below (T1.setTop (mkF m 7 #[.val (.ref o1), .val (.int 1), .val (.ref o2), .val (.int 1), .val (.int 1), .val (.int 1), .val (.int x0)] [(.int 1), (.int 1)])) _
    refine XS.icmpYes X1.here hx rfl (pc0 := 7) (pc' := 44) rfl (hb hby d19_7) rfl (flt (by decide : ¬ ((1 : Int32) < (1 : Int32)))).2.1 (by decide) (by decide) ?_
    show Steps p.tables e below (T1.setTop (mkF m 44 #[.val (.ref o1), .val (.int 1), .val (.ref o2), .val (.int 1), .val (.int 1), .val (.int 1), .val (.int x0)] [])) _
    refine XS.iload X1.here hx rfl (hb hby d19_44) rfl ?_
    show Steps p.tables e below (T1.setTop (mkF m 46 #[.val (.ref o1), .val (.int 1), .val (.ref o2), .val (.int 1), .val (.int 1), .val (.int 1), .val (.int x0)] [(.int 1)])) _
    exact retI X1 hx Bd.returns (hb hby d19_46) hr
  · show Q19_o1_0_o2_0_1 Z o1 o2 kk_o1 x0 kk_o2 h0 n0 _ T1.heap _
    rw [e1]
    exact ⟨rfl, N1, K1, V1_o2⟩
def Q18_o1_0_1 (Z : State) (o1 : Addr) (kk_o1 : ClassId) (x0 : Int32) (h0 : Heap) (n0 : Nat) (v : Option Value) (h : Heap) (L : List Loc) : Prop := ∃ (c1 : Addr), ∃ (kd2 : ClassId), v = some (.ref c1) ∧ Fr n0 L ∧ Keep h0 h [] ∧ h0.size ≤ c1 ∧ Arv Z h c1 kd2 .byte (1 : Int32) [(.int (nar .byte (x0.toInt8.toInt32)))] (.int (0 : Int32))
set_option maxRecDepth 65536 in
set_option maxHeartbeats 40000000 in
theorem rm18_o1_0_1 (l : Launch) (Z : State) (a0 : Array Value) (hw : ∀ d ∈ tables_1, d.before a0 Z = true) (ws : List Jvm.Cond) (o1 : Addr) (kk_o1 : ClassId) (x0 : Int32) (h0 : Heap) (n0 : Nat) (Z0 : n0 ≤ h0.size) (V_o1 : Arv Z h0 o1 kk_o1 .char (1 : Int32) [(.int x0)] (.int (0 : Int32))) (hhi_x0 : x0 < (256 : Int32)) :
    MetFree l (⟨"java/lang/StringUTF16", "compress", "([CII)[B"⟩ : MethodName) (head1 (Jvm.Cond.code (⟨"java/lang/StringUTF16", "compress", "([CII)[B"⟩ : MethodName) jdk_52_method_16_code 6 (some (.array .byte)) :: ws) ({ frames := 1, cells := 1, slots := 1, locals := 18 } : Room)) (fun a U => a = #[(.ref o1), (.int 0), (.int 1)] ∧ Z.Warmed39 U.vm ∧ U.heap = h0) (fun _ _ _ _ _ => True) (fun _ U o U' => ∃ v L, o = .returned v ∧ Q18_o1_0_1 Z o1 kk_o1 x0 h0 n0 v U'.heap L ∧ FrameEnd U o U' L ({ frames := 1, cells := 1, slots := 1, locals := 18 } : Room).cells ({ frames := 1, cells := 1, slots := 1, locals := 18 } : Room).slots) := by
  refine MetFree.of_bodySF (plainFor_of_name pn_18) hisR ?_
  intro p e s m args below meth c s₁ Bd hml0 hP hK
  obtain ⟨rfl, hZ, hh⟩ := hP
  have hx := Bd.exec
  have hby := Bd.bytes
  have hml : c.maxLocals = 6 := hml0
  have hown : s.vm.findClass "java/lang/StringUTF16" = some m.cls := findClass_of_methodNamed Bd.named
  have hnm := (name_of_methodNamed Bd.named Bd.method).1
  have X0 : Stand p l e ({ frames := 1, cells := 1, slots := 1, locals := 18 } : Room) s m #[(.ref o1), (.int 0), (.int 1)] below meth c s₁ [] 0 0 := Stand.of_body Bd
  have e0 : s₁.heap = h0 := by rw [← hh, Bd.state]; rfl
  have N0 := Fr.nil n0
  have pre0 : ∀ t, Steps p.tables e below (s₁.setTop (mkF m 0 #[.val (.ref o1), .val (.int 0), .val (.int 1), .unset, .unset, .unset] [])) t → Steps p.tables e below (s₁.setTop (entryFrame m #[(.ref o1), (.int 0), (.int 1)] 6)) t := fun t k => castTop (by first | (simp [entryFrame, mkF, argsToLocals, Value.category]; done) | rfl) k
  obtain ⟨T1, h1, k1, X1, e1, E1, A1, st1⟩ := newP X0 hx hZ (hw _ (List.mem_of_getElem? (i := 26) rfl)) e0 (g := (mkF m 1 #[.val (.ref o1), .val (.int 0), .val (.int 1), .unset, .unset, .unset] [(.int 1)])) rfl (hb hby d18_1) rfl (by decide) (cap := 1) (by decide) (by decide) (by decide) (by decide)
  obtain ⟨b1, g1⟩ : ∃ z, z = h0.size := ⟨_, rfl⟩
  have s_b1 : h0.size ≤ b1 := Nat.le_of_eq g1.symm
  have g_b1 : n0 ≤ b1 := Nat.le_trans Z0 s_b1
  have sz_b1 : h0.size ≤ b1 := s_b1
  rw [← g1] at A1 st1
  have K1 : Keep h0 h1 [] := (Keep.refl h0 []).ext E1
  have V_b1 : Arv Z h1 b1 k1 .byte (1 : Int32) [(.int 0)] (.int (0 : Int32)) := (Arv.new A1 (by decide)).pad (pad_rep [] (.int (0 : Int32)) 1)
  obtain ⟨_, _, ⟨T2, L2, k2, n2⟩, -, X2, ⟨Lc2, hQ2, l2, y2, z2⟩, st2⟩ := Jvm.LawKit.callS X1 hx (y := (⟨"java/lang/StringUTF16", "compress", "([CI[BII)I"⟩ : MethodName)) hown (mvT hZ (hw _ (List.mem_of_getElem? (i := 128) rfl))) (mvT hZ (hw _ (List.mem_of_getElem? (i := 129) rfl))) (mvT hZ (hw _ (List.mem_of_getElem? (i := 126) rfl))) (mvT hZ (hw _ (List.mem_of_getElem? (i := 130) rfl))) (by decide) (backOf (W := 0) (rm19_o1_0_o2_0_1 l Z a0 hw [] o1 b1 kk_o1 x0 k1 h1 n0 (Nat.le_trans Z0 K1.1) (V_o1.keep K1 nin0) hhi_x0 V_b1 g_b1) hZ (hw _ (List.mem_of_getElem? (i := 130) rfl)) (hw _ (List.mem_of_getElem? (i := 126) rfl)) (by decide) (by decide)) (g := (mkF m 9 #[.val (.ref o1), .val (.int 0), .val (.int 1), .val (.ref b1), .unset, .unset] [(.int 1), (.int 0), (.ref b1), (.int 0), (.ref o1)])) rfl (by rw [hml]; rfl) (argsL := [(.ref o1), (.int 0), (.ref b1), (.int 0), (.int 1)]) (rest := []) (lenOf pd___CI_BII_I rfl) rfl (by show 2 * 0 + _ ≤ _; exact Nat.le_of_eq rfl) (hb hby d18_9) (fun _ _ => ⟨rfl, e1, (by decide : 1 + 0 ≤ _), (by decide : 1 + 0 ≤ _)⟩)
  dsimp only [Pt.U, Pt.locs, Pt.cells, Pt.slots] at X2 l2 y2 z2 st2 hQ2
  subst l2 y2 z2
  obtain ⟨rfl, N2q, Kq2, fq2_0⟩ := hQ2
  have N2 := Fr.app N0 N2q
  have K2 : Keep h0 T2.heap [] := K1.trans Kq2 (allS (Or.inr sz_b1) all0)
  obtain ⟨fs, hr, hrun, hended, hW, hsame⟩ := X2.leave (v := some (.ref b1)) (fun h => by rw [Bd.returns] at h; cases h)
  refine ⟨_, _, pre0 _ ?_, hrun, hended, _, _, rfl, ?_, ⟨_, rfl⟩, hW, hsame.mono (by decide) (by decide)⟩
  · show Steps p.tables e below (s₁.setTop (mkF m 0 #[.val (.ref o1), .val (.int 0), .val (.int 1), .unset, .unset, .unset] [])) _
    refine XS.iloadN X0.here hx rfl (hb hby d18_0) rfl ?_
    show Steps p.tables e below (s₁.setTop (mkF m 1 #[.val (.ref o1), .val (.int 0), .val (.int 1), .unset, .unset, .unset] [(.int 1)])) _
    refine st1 _ ?_
    show Steps p.tables e below (T1.setTop (mkF m 3 #[.val (.ref o1), .val (.int 0), .val (.int 1), .unset, .unset, .unset] [(.ref b1)])) _
    refine XS.astoreN X1.here hx rfl (hb hby d18_3) rfl rfl (l' := #[.val (.ref o1), .val (.int 0), .val (.int 1), .val (.ref b1), .unset, .unset]) rfl ?_
    show Steps p.tables e below (T1.setTop (mkF m 4 #[.val (.ref o1), .val (.int 0), .val (.int 1), .val (.ref b1), .unset, .unset] [])) _
    refine XS.aloadN X1.here hx rfl (hb hby d18_4) rfl rfl ?_
    show Steps p.tables e below (T1.setTop (mkF m 5 #[.val (.ref o1), .val (.int 0), .val (.int 1), .val (.ref b1), .unset, .unset] [(.ref o1)])) _
    refine XS.iloadN X1.here hx rfl (hb hby d18_5) rfl ?_
    show Steps p.tables e below (T1.setTop (mkF m 6 #[.val (.ref o1), .val (.int 0), .val (.int 1), .val (.ref b1), .unset, .unset] [(.int 0), (.ref o1)])) _
    refine XS.aloadN X1.here hx rfl (hb hby d18_6) rfl rfl ?_
    show Steps p.tables e below (T1.setTop (mkF m 7 #[.val (.ref o1), .val (.int 0), .val (.int 1), .val (.ref b1), .unset, .unset] [(.ref b1), (.int 0), (.ref o1)])) _
    refine XS.iconst X1.here hx rfl (hb hby d18_7) ?_
    show Steps p.tables e below (T1.setTop (mkF m 8 #[.val (.ref o1), .val (.int 0), .val (.int 1), .val (.ref b1), .unset, .unset] [(.int 0), (.ref b1), (.int 0), (.ref o1)])) _
    refine XS.iloadN X1.here hx rfl (hb hby d18_8) rfl ?_
    show Steps p.tables e below (T1.setTop (mkF m 9 #[.val (.ref o1), .val (.int 0), .val (.int 1), .val (.ref b1), .unset, .unset] [(.int 1), (.int 0), (.ref b1), (.int 0), (.ref o1)])) _
    refine st2 _ ?_
    show Steps p.tables e below (T2.setTop (mkF m 12 #[.val (.ref o1), .val (.int 0), .val (.int 1), .val (.ref b1), .unset, .unset] [(.int 1)])) _
    refine XS.istore X2.here hx rfl (hb hby d18_12) rfl (l' := #[.val (.ref o1), .val (.int 0), .val (.int 1), .val (.ref b1), .val (.int 1), .unset]) rfl ?_
    show Steps p.tables e below (T2.setTop (mkF m 14 #[.val (.ref o1), .val (.int 0), .val (.int 1), .val (.ref b1), .val (.int 1), .unset] [])) _
    refine XS.iload X2.here hx rfl (hb hby d18_14) rfl ?_
    show Steps p.tables e below (T2.setTop (mkF m 16 #[.val (.ref o1), .val (.int 0), .val (.int 1), .val (.ref b1), .val (.int 1), .unset] [(.int 1)])) _
    refine XS.iloadN X2.here hx rfl (hb hby d18_16) rfl ?_
    show Steps p.tables e below (T2.setTop (mkF m 17 #[.val (.ref o1), .val (.int 0), .val (.int 1), .val (.ref b1), .val (.int 1), .unset] [(.int 1), (.int 1)])) _
    refine XS.icmpYes X2.here hx rfl (pc0 := 17) (pc' := 57) rfl (hb hby d18_17) rfl (teq (by decide : (1 : Int32) = (1 : Int32))).1 (by decide) (by decide) ?_
    show Steps p.tables e below (T2.setTop (mkF m 57 #[.val (.ref o1), .val (.int 0), .val (.int 1), .val (.ref b1), .val (.int 1), .unset] [])) _
    refine XS.aloadN X2.here hx rfl (hb hby d18_57) rfl rfl ?_
    show Steps p.tables e below (T2.setTop (mkF m 58 #[.val (.ref o1), .val (.int 0), .val (.int 1), .val (.ref b1), .val (.int 1), .unset] [(.ref b1)])) _
    jvm_step X2.here [X2.here.top, hx, (hb hby d18_58), X2.method', Bd.returns, Value.isRef, FieldType.isReference]
    first | (intro acts; rw [hr _ acts rfl rfl rfl]) | rw [hr _ _ rfl rfl rfl]
    exact Steps.refl _
  · show Q18_o1_0_1 Z o1 kk_o1 x0 h0 n0 _ T2.heap _
    exact ⟨b1, k1, rfl, N2, K2, sz_b1, fq2_0⟩
def Q20_o1_1 (Z : State) (o1 : Addr) (kk_o1 : ClassId) (x0 : Int32) (h0 : Heap) (n0 : Nat) (v : Option Value) (h : Heap) (L : List Loc) : Prop := v = some (.int 0) ∧ Fr n0 L ∧ h = h0
set_option maxRecDepth 65536 in
set_option maxHeartbeats 40000000 in
theorem rm20_o1_1 (l : Launch) (Z : State) (a0 : Array Value) (hw : ∀ d ∈ tables_1, d.before a0 Z = true) (ws : List Jvm.Cond) (o1 : Addr) (kk_o1 : ClassId) (x0 : Int32) (h0 : Heap) (n0 : Nat) (Z0 : n0 ≤ h0.size) (V_o1 : Arv Z h0 o1 kk_o1 .byte (1 : Int32) [(.int (nar .byte (x0.toInt8.toInt32)))] (.int (0 : Int32))) :
    MetFree l (⟨"java/lang/StringUTF16", "coderFromArrayLen", "([BI)B"⟩ : MethodName) (head1 (Jvm.Cond.code (⟨"java/lang/StringUTF16", "coderFromArrayLen", "([BI)B"⟩ : MethodName) jdk_52_method_15_code 2 (some .byte) :: ws) ({ frames := 0, cells := 0, slots := 0, locals := 0 } : Room)) (fun a U => a = #[(.ref o1), (.int 1)] ∧ Z.Warmed39 U.vm ∧ U.heap = h0) (fun _ _ _ _ _ => True) (fun _ U o U' => ∃ v L, o = .returned v ∧ Q20_o1_1 Z o1 kk_o1 x0 h0 n0 v U'.heap L ∧ FrameEnd U o U' L ({ frames := 0, cells := 0, slots := 0, locals := 0 } : Room).cells ({ frames := 0, cells := 0, slots := 0, locals := 0 } : Room).slots) := by
  refine MetFree.of_bodySF (plainFor_of_name pn_20) hisR ?_
  intro p e s m args below meth c s₁ Bd hml0 hP hK
  obtain ⟨rfl, hZ, hh⟩ := hP
  have hx := Bd.exec
  have hby := Bd.bytes
  have hml : c.maxLocals = 2 := hml0
  have hown : s.vm.findClass "java/lang/StringUTF16" = some m.cls := findClass_of_methodNamed Bd.named
  have hnm := (name_of_methodNamed Bd.named Bd.method).1
  have X0 : Stand p l e ({ frames := 0, cells := 0, slots := 0, locals := 0 } : Room) s m #[(.ref o1), (.int 1)] below meth c s₁ [] 0 0 := Stand.of_body Bd
  have e0 : s₁.heap = h0 := by rw [← hh, Bd.state]; rfl
  have N0 := Fr.nil n0
  have pre0 : ∀ t, Steps p.tables e below (s₁.setTop (mkF m 0 #[.val (.ref o1), .val (.int 1)] [])) t → Steps p.tables e below (s₁.setTop (entryFrame m #[(.ref o1), (.int 1)] 2)) t := fun t k => castTop (by first | (simp [entryFrame, mkF, argsToLocals, Value.category]; done) | rfl) k
  obtain ⟨fs, hr, hrun, hended, hW, hsame⟩ := X0.leave (v := some (.int 0)) (fun h => by rw [Bd.returns] at h; cases h)
  refine ⟨_, _, pre0 _ ?_, hrun, hended, _, _, rfl, ?_, ⟨_, rfl⟩, hW, hsame.mono (by decide) (by decide)⟩
  · show Steps p.tables e below (s₁.setTop (mkF m 0 #[.val (.ref o1), .val (.int 1)] [])) _
    refine XS.iloadN X0.here hx rfl (hb hby d20_0) rfl ?_
    show Steps p.tables e below (s₁.setTop (mkF m 1 #[.val (.ref o1), .val (.int 1)] [(.int 1)])) _
    refine XS.aloadN X0.here hx rfl (hb hby d20_1) rfl rfl ?_
    show Steps p.tables e below (s₁.setTop (mkF m 2 #[.val (.ref o1), .val (.int 1)] [(.ref o1), (.int 1)])) _
    refine own_len X0 hx hZ e0 V_o1 (g := (mkF m 2 #[.val (.ref o1), .val (.int 1)] [(.ref o1), (.int 1)])) rfl rfl (hb hby d20_2) _ ?_
    show Steps p.tables e below (s₁.setTop (mkF m 3 #[.val (.ref o1), .val (.int 1)] [(.int 1), (.int 1)])) _
    refine XS.isub X0.here hx rfl (hb hby d20_3) rfl ?_
    show Steps p.tables e below (s₁.setTop (mkF m 4 #[.val (.ref o1), .val (.int 1)] [(.int ((1 : Int32) - (1 : Int32)))])) _
    rw [(by decide : ((1 : Int32) - (1 : Int32)) = (0 : Int32))]
    show Steps p.tables e below (s₁.setTop (mkF m 4 #[.val (.ref o1), .val (.int 1)] [(.int 0)])) _
    refine XS.bipush X0.here hx rfl (hb hby d20_4) ?_
    show Steps p.tables e below (s₁.setTop (mkF m 6 #[.val (.ref o1), .val (.int 1)] [(.int 31), (.int 0)])) _
    refine XS.iushr X0.here hx rfl (hb hby d20_6) rfl ?_
    show Steps p.tables e below (s₁.setTop (mkF m 7 #[.val (.ref o1), .val (.int 1)] [(.int (((0 : Int32).toUInt32 >>> ((31 : Int32) &&& 31).toUInt32).toInt32))])) _
    rw [(by decide : (((0 : Int32).toUInt32 >>> ((31 : Int32) &&& 31).toUInt32).toInt32) = (0 : Int32))]
    show Steps p.tables e below (s₁.setTop (mkF m 7 #[.val (.ref o1), .val (.int 1)] [(.int 0)])) _
    refine XS.i2b X0.here hx rfl (hb hby d20_7) rfl ?_
    show Steps p.tables e below (s₁.setTop (mkF m 8 #[.val (.ref o1), .val (.int 1)] [(.int ((0 : Int32).toInt8.toInt32))])) _
    rw [(by decide : ((0 : Int32).toInt8.toInt32) = (0 : Int32))]
    show Steps p.tables e below (s₁.setTop (mkF m 8 #[.val (.ref o1), .val (.int 1)] [(.int 0)])) _
    exact retN X0 hx (t := .byte) Bd.returns (by simp) (hb hby d20_8) hr
  · show Q20_o1_1 Z o1 kk_o1 x0 h0 n0 _ s₁.heap _
    rw [e0]
    exact ⟨rfl, N0, rfl⟩
def Q3_o1_o2_0_1_null (Z : State) (o1 : Addr) (o2 : Addr) (w_COMPACT_STRINGS : Int32) (kk_o2 : ClassId) (x0 : Int32) (h0 : Heap) (n0 : Nat) (v : Option Value) (h : Heap) (L : List Loc) : Prop := ∃ (c1 : Addr), ∃ (kd2 : ClassId), v = none ∧ Fr n0 L ∧ Keep h0 h [o1] ∧ h0.size ≤ c1 ∧ Exa Z h o1 "java/lang/String" ∧ Fld Z h o1 "java/lang/String" "coder" "B" (.int 0) ∧ Fld Z h o1 "java/lang/String" "value" "[B" (.ref c1) ∧ Arv Z h c1 kd2 .byte (1 : Int32) [(.int (nar .byte (x0.toInt8.toInt32)))] (.int (0 : Int32))
set_option maxRecDepth 65536 in
set_option maxHeartbeats 40000000 in
theorem rm3_o1_o2_0_1_null (l : Launch) (Z : State) (a0 : Array Value) (hw : ∀ d ∈ tables_1, d.before a0 Z = true) (ws : List Jvm.Cond) (o1 : Addr) (o2 : Addr) (w_COMPACT_STRINGS : Int32) (kk_o2 : ClassId) (x0 : Int32) (h0 : Heap) (n0 : Nat) (Z0 : n0 ≤ h0.size) (S_COMPACT_STRINGS : Sta Z h0 "java/lang/String" "COMPACT_STRINGS" "Z" (.int w_COMPACT_STRINGS)) (hc30 : ¬ (w_COMPACT_STRINGS = (0 : Int32))) (V_o2 : Arv Z h0 o2 kk_o2 .char (1 : Int32) [(.int x0)] (.int (0 : Int32))) (hhi_x0 : x0 < (256 : Int32)) (E_o1 : Exa Z h0 o1 "java/lang/String") (F_coder_o1 : Fld Z h0 o1 "java/lang/String" "coder" "B" (.int 0)) (g_o1 : n0 ≤ o1) (F_value_o1 : Fld Z h0 o1 "java/lang/String" "value" "[B" .null) :
    MetFree l (⟨"java/lang/String", "<init>", "([CIILjava/lang/Void;)V"⟩ : MethodName) (head1 (Jvm.Cond.code (⟨"java/lang/String", "<init>", "([CIILjava/lang/Void;)V"⟩ : MethodName) jdk_42_method_149_code 6 none :: ws) ({ frames := 2, cells := 1, slots := 1, locals := 35 } : Room)) (fun a U => a = #[(.ref o1), (.ref o2), (.int 0), (.int 1), .null] ∧ Z.Warmed39 U.vm ∧ U.heap = h0) (fun _ _ _ _ _ => True) (fun _ U o U' => ∃ v L, o = .returned v ∧ Q3_o1_o2_0_1_null Z o1 o2 w_COMPACT_STRINGS kk_o2 x0 h0 n0 v U'.heap L ∧ FrameEnd U o U' L ({ frames := 2, cells := 1, slots := 1, locals := 35 } : Room).cells ({ frames := 2, cells := 1, slots := 1, locals := 35 } : Room).slots) := by
  refine MetFree.of_bodySF (plainFor_of_name pn_3) hisR ?_
  intro p e s m args below meth c s₁ Bd hml0 hP hK
  obtain ⟨rfl, hZ, hh⟩ := hP
  have hx := Bd.exec
  have hby := Bd.bytes
  have hml : c.maxLocals = 6 := hml0
  have hown : s.vm.findClass "java/lang/String" = some m.cls := findClass_of_methodNamed Bd.named
  have hnm := (name_of_methodNamed Bd.named Bd.method).1
  have X0 : Stand p l e ({ frames := 2, cells := 1, slots := 1, locals := 35 } : Room) s m #[(.ref o1), (.ref o2), (.int 0), (.int 1), .null] below meth c s₁ [] 0 0 := Stand.of_body Bd
  have e0 : s₁.heap = h0 := by rw [← hh, Bd.state]; rfl
  have N0 := Fr.nil n0
  have pre0 : ∀ t, Steps p.tables e below (s₁.setTop (mkF m 0 #[.val (.ref o1), .val (.ref o2), .val (.int 0), .val (.int 1), .val .null, .unset] [])) t → Steps p.tables e below (s₁.setTop (entryFrame m #[(.ref o1), (.ref o2), (.int 0), (.int 1), .null] 6)) t := fun t k => castTop (by first | (simp [entryFrame, mkF, argsToLocals, Value.category]; done) | rfl) k
  obtain ⟨T1, X1, e1, st1⟩ := initO X0 hx hZ hown (hw _ (List.mem_of_getElem? (i := 22) rfl)) (hw _ (List.mem_of_getElem? (i := 23) rfl)) (hw _ (List.mem_of_getElem? (i := 24) rfl)) e0 (g := (mkF m 1 #[.val (.ref o1), .val (.ref o2), .val (.int 0), .val (.int 1), .val .null, .unset] [(.ref o1)])) rfl (by rw [hml]; rfl) rfl (hb hby d3_1) (by decide) (W := 0) (by show 2 * 0 + _ ≤ _; exact Nat.le_of_eq rfl) (by decide)
  obtain ⟨T2, X2, e2, st2⟩ := getS2 X1 hx hZ hown (host := "") (Or.inl (hw _ (List.mem_of_getElem? (i := 123) rfl))) Via.refl e1 S_COMPACT_STRINGS (g := (mkF m 27 #[.val (.ref o1), .val (.ref o2), .val (.int 0), .val (.int 1), .val .null, .unset] [])) rfl (hb hby d3_27)
  obtain ⟨_, _, ⟨T3, L3, k3, n3⟩, -, X3, ⟨Lc3, hQ3, l3, y3, z3⟩, st3⟩ := Jvm.LawKit.callS X2 hx (y := (⟨"java/lang/StringUTF16", "compress", "([CII)[B"⟩ : MethodName)) hown (mvT hZ (hw _ (List.mem_of_getElem? (i := 124) rfl))) (mvT hZ (hw _ (List.mem_of_getElem? (i := 125) rfl))) (mvT hZ (hw _ (List.mem_of_getElem? (i := 126) rfl))) (mvT hZ (hw _ (List.mem_of_getElem? (i := 127) rfl))) (by decide) (backOf (W := 0) (rm18_o1_0_1 l Z a0 hw [] o2 kk_o2 x0 h0 n0 Z0 V_o2 hhi_x0) hZ (hw _ (List.mem_of_getElem? (i := 127) rfl)) (hw _ (List.mem_of_getElem? (i := 126) rfl)) (by decide) (by decide)) (g := (mkF m 36 #[.val (.ref o1), .val (.ref o2), .val (.int 0), .val (.int 1), .val .null, .unset] [(.int 1), (.int 0), (.ref o2)])) rfl (by rw [hml]; rfl) (argsL := [(.ref o2), (.int 0), (.int 1)]) (rest := []) (lenOf pd___CII__B rfl) rfl (by show 2 * 0 + _ ≤ _; exact Nat.le_of_eq rfl) (hb hby d3_36) (fun _ _ => ⟨rfl, e2, (by decide : 0 + 1 ≤ _), (by decide : 0 + 1 ≤ _)⟩)
  dsimp only [Pt.U, Pt.locs, Pt.cells, Pt.slots] at X3 l3 y3 z3 st3 hQ3
  subst l3 y3 z3
  obtain ⟨b3c1, kc3kd2, rfl, N3q, Kq3, s_b3c1, fq3_0⟩ := hQ3
  have N3 := Fr.app N0 N3q
  have g_b3c1 : n0 ≤ b3c1 := Nat.le_trans Z0 s_b3c1
  have sz_b3c1 : h0.size ≤ b3c1 := s_b3c1
  have K3 : Keep h0 T3.heap [o1] := (Keep.refl h0 [o1]).trans Kq3 all0
  obtain ⟨_, _, ⟨T4, L4, k4, n4⟩, -, X4, ⟨Lc4, hQ4, l4, y4, z4⟩, st4⟩ := Jvm.LawKit.callS X3 hx (y := (⟨"java/lang/StringUTF16", "coderFromArrayLen", "([BI)B"⟩ : MethodName)) hown (mvT hZ (hw _ (List.mem_of_getElem? (i := 131) rfl))) (mvT hZ (hw _ (List.mem_of_getElem? (i := 132) rfl))) (mvT hZ (hw _ (List.mem_of_getElem? (i := 126) rfl))) (mvT hZ (hw _ (List.mem_of_getElem? (i := 133) rfl))) (by decide) (backOf (W := 1) (rm20_o1_1 l Z a0 hw [] b3c1 kc3kd2 x0 T3.heap n0 (Nat.le_trans Z0 K3.1) fq3_0) hZ (hw _ (List.mem_of_getElem? (i := 133) rfl)) (hw _ (List.mem_of_getElem? (i := 126) rfl)) (by decide) (by decide)) (g := (mkF m 45 #[.val (.ref o1), .val (.ref o2), .val (.int 0), .val (.int 1), .val .null, .val (.ref b3c1)] [(.int 1), (.ref b3c1), (.ref o1)])) rfl (by rw [hml]; rfl) (argsL := [(.ref b3c1), (.int 1)]) (rest := [(.ref o1)]) (lenOf pd___BI_B rfl) rfl (by show 2 * 0 + _ ≤ _; exact Nat.le_of_eq rfl) (hb hby d3_45) (fun _ _ => ⟨rfl, rfl, (by decide : 1 + 0 ≤ _), (by decide : 1 + 0 ≤ _)⟩)
  dsimp only [Pt.U, Pt.locs, Pt.cells, Pt.slots] at X4 l4 y4 z4 st4 hQ4
  subst l4 y4 z4
  obtain ⟨rfl, N4q, e4⟩ := hQ4
  have N4 := Fr.app N3 N4q
  obtain ⟨T5, h5, X5, e5, W5, st5⟩ := putFN X4 hx hZ hown (hw _ (List.mem_of_getElem? (i := 32) rfl)) Via.refl e4 (F_coder_o1.keep Kq3 nin0) (E_o1.keep Kq3) (Or.inr ⟨(hw _ (List.mem_of_getElem? (i := 28) rfl)), rfl, hnm⟩) (hw _ (List.mem_of_getElem? (i := 12) rfl)) (ty := .byte) (v' := (.int 0)) (by decide) (by decide) (by decide) (g := (mkF m 48 #[.val (.ref o1), .val (.ref o2), .val (.int 0), .val (.int 1), .val .null, .val (.ref b3c1)] [(.int 0), (.ref o1)])) rfl rfl (hb hby d3_48)
  have Fw5 := (F_coder_o1.keep Kq3 nin0).same W5
  have N5 := Fr.snoc X5 N4 g_o1
  have K5 : Keep h0 h5 [o1] := K3.wr W5 (Or.inl (List.mem_of_getElem? (i := 0) rfl))
  obtain ⟨T6, h6, X6, e6, W6, st6⟩ := putF X5 hx hZ hown (host := "") (Or.inl (hw _ (List.mem_of_getElem? (i := 31) rfl))) Via.refl e5 ((F_value_o1.keep Kq3 nin0).other W5 (Or.inr (slot_ne (Or.inr (hw _ (List.mem_of_getElem? (i := 27) rfl))) (Or.inr (hw _ (List.mem_of_getElem? (i := 28) rfl))) (by decide) (t := (.array .byte)) (t' := .byte) (by decide) (by decide)))) ((E_o1.keep Kq3).wr W5) (Or.inr ⟨(hw _ (List.mem_of_getElem? (i := 27) rfl)), rfl, hnm⟩) (hw _ (List.mem_of_getElem? (i := 12) rfl)) (ty := (.array .byte)) (by decide) rfl rfl (g := (mkF m 54 #[.val (.ref o1), .val (.ref o2), .val (.int 0), .val (.int 1), .val .null, .val (.ref b3c1)] [(.ref b3c1), (.ref o1)])) rfl rfl (hb hby d3_54)
  have Fw6 := ((F_value_o1.keep Kq3 nin0).other W5 (Or.inr (slot_ne (Or.inr (hw _ (List.mem_of_getElem? (i := 27) rfl))) (Or.inr (hw _ (List.mem_of_getElem? (i := 28) rfl))) (by decide) (t := (.array .byte)) (t' := .byte) (by decide) (by decide)))).same W6
  have N6 := Fr.snoc X6 N5 g_o1
  have K6 : Keep h0 h6 [o1] := K5.wr W6 (Or.inl (List.mem_of_getElem? (i := 0) rfl))
  obtain ⟨fs, hr, hrun, hended, hW, hsame⟩ := X6.leave (v := none) (fun _ => rfl)
  refine ⟨_, _, pre0 _ ?_, hrun, hended, _, _, rfl, ?_, ⟨_, rfl⟩, hW, hsame.mono (by decide) (by decide)⟩
  · show Steps p.tables e below (s₁.setTop (mkF m 0 #[.val (.ref o1), .val (.ref o2), .val (.int 0), .val (.int 1), .val .null, .unset] [])) _
    refine XS.aloadN X0.here hx rfl (hb hby d3_0) rfl rfl ?_
    show Steps p.tables e below (s₁.setTop (mkF m 1 #[.val (.ref o1), .val (.ref o2), .val (.int 0), .val (.int 1), .val .null, .unset] [(.ref o1)])) _
    refine st1 _ ?_
    show Steps p.tables e below (T1.setTop (mkF m 4 #[.val (.ref o1), .val (.ref o2), .val (.int 0), .val (.int 1), .val .null, .unset] [])) _
    refine XS.iloadN X1.here hx rfl (hb hby d3_4) rfl ?_
    show Steps p.tables e below (T1.setTop (mkF m 5 #[.val (.ref o1), .val (.ref o2), .val (.int 0), .val (.int 1), .val .null, .unset] [(.int 1)])) _
    refine XS.ifYes X1.here hx rfl (pc0 := 5) (pc' := 27) rfl (hb hby d3_5) rfl ((if0 _ _).trans (feq (by decide : ¬ ((1 : Int32) = (0 : Int32)))).2) (by decide) (by decide) ?_
    show Steps p.tables e below (T1.setTop (mkF m 27 #[.val (.ref o1), .val (.ref o2), .val (.int 0), .val (.int 1), .val .null, .unset] [])) _
    refine st2 _ ?_
    show Steps p.tables e below (T2.setTop (mkF m 30 #[.val (.ref o1), .val (.ref o2), .val (.int 0), .val (.int 1), .val .null, .unset] [(.int w_COMPACT_STRINGS)])) _
    refine XS.ifNo X2.here hx rfl (hb hby d3_30) rfl ((if0 _ _).trans (feq hc30).1) ?_
    show Steps p.tables e below (T2.setTop (mkF m 33 #[.val (.ref o1), .val (.ref o2), .val (.int 0), .val (.int 1), .val .null, .unset] [])) _
    refine XS.aloadN X2.here hx rfl (hb hby d3_33) rfl rfl ?_
    show Steps p.tables e below (T2.setTop (mkF m 34 #[.val (.ref o1), .val (.ref o2), .val (.int 0), .val (.int 1), .val .null, .unset] [(.ref o2)])) _
    refine XS.iloadN X2.here hx rfl (hb hby d3_34) rfl ?_
    show Steps p.tables e below (T2.setTop (mkF m 35 #[.val (.ref o1), .val (.ref o2), .val (.int 0), .val (.int 1), .val .null, .unset] [(.int 0), (.ref o2)])) _
    refine XS.iloadN X2.here hx rfl (hb hby d3_35) rfl ?_
    show Steps p.tables e below (T2.setTop (mkF m 36 #[.val (.ref o1), .val (.ref o2), .val (.int 0), .val (.int 1), .val .null, .unset] [(.int 1), (.int 0), (.ref o2)])) _
    refine st3 _ ?_
    show Steps p.tables e below (T3.setTop (mkF m 39 #[.val (.ref o1), .val (.ref o2), .val (.int 0), .val (.int 1), .val .null, .unset] [(.ref b3c1)])) _
    refine XS.astore X3.here hx rfl (hb hby d3_39) rfl rfl (l' := #[.val (.ref o1), .val (.ref o2), .val (.int 0), .val (.int 1), .val .null, .val (.ref b3c1)]) rfl ?_
    show Steps p.tables e below (T3.setTop (mkF m 41 #[.val (.ref o1), .val (.ref o2), .val (.int 0), .val (.int 1), .val .null, .val (.ref b3c1)] [])) _
    refine XS.aloadN X3.here hx rfl (hb hby d3_41) rfl rfl ?_
    show Steps p.tables e below (T3.setTop (mkF m 42 #[.val (.ref o1), .val (.ref o2), .val (.int 0), .val (.int 1), .val .null, .val (.ref b3c1)] [(.ref o1)])) _
    refine XS.aload X3.here hx rfl (hb hby d3_42) rfl rfl ?_
    show Steps p.tables e below (T3.setTop (mkF m 44 #[.val (.ref o1), .val (.ref o2), .val (.int 0), .val (.int 1), .val .null, .val (.ref b3c1)] [(.ref b3c1), (.ref o1)])) _
    refine XS.iloadN X3.here hx rfl (hb hby d3_44) rfl ?_
    show Steps p.tables e below (T3.setTop (mkF m 45 #[.val (.ref o1), .val (.ref o2), .val (.int 0), .val (.int 1), .val .null, .val (.ref b3c1)] [(.int 1), (.ref b3c1), (.ref o1)])) _
    refine st4 _ ?_
    show Steps p.tables e below (T4.setTop (mkF m 48 #[.val (.ref o1), .val (.ref o2), .val (.int 0), .val (.int 1), .val .null, .val (.ref b3c1)] [(.int 0), (.ref o1)])) _
    refine st5 _ ?_
    show Steps p.tables e below (T5.setTop (mkF m 51 #[.val (.ref o1), .val (.ref o2), .val (.int 0), .val (.int 1), .val .null, .val (.ref b3c1)] [])) _
    refine XS.aloadN X5.here hx rfl (hb hby d3_51) rfl rfl ?_
    show Steps p.tables e below (T5.setTop (mkF m 52 #[.val (.ref o1), .val (.ref o2), .val (.int 0), .val (.int 1), .val .null, .val (.ref b3c1)] [(.ref o1)])) _
    refine XS.aload X5.here hx rfl (hb hby d3_52) rfl rfl ?_
    show Steps p.tables e below (T5.setTop (mkF m 54 #[.val (.ref o1), .val (.ref o2), .val (.int 0), .val (.int 1), .val .null, .val (.ref b3c1)] [(.ref b3c1), (.ref o1)])) _
    refine st6 _ ?_
    show Steps p.tables e below (T6.setTop (mkF m 57 #[.val (.ref o1), .val (.ref o2), .val (.int 0), .val (.int 1), .val .null, .val (.ref b3c1)] [])) _
    exact X6.returnOut hx Bd.returns (hb hby d3_57) hr
  · show Q3_o1_o2_0_1_null Z o1 o2 w_COMPACT_STRINGS kk_o2 x0 h0 n0 _ T6.heap _
    rw [e6]
    exact ⟨b3c1, kc3kd2, rfl, N6, K6, sz_b3c1, (((E_o1.keep Kq3).wr W5).wr W6), (Fw5.other W6 (Or.inr (slot_ne (Or.inr (hw _ (List.mem_of_getElem? (i := 28) rfl))) (Or.inr (hw _ (List.mem_of_getElem? (i := 27) rfl))) (by decide) (t := .byte) (t' := (.array .byte)) (by decide) (by decide)))), Fw6, ((fq3_0.other W5 (Ne.symm (Nat.ne_of_lt (Nat.lt_of_lt_of_le (E_o1).lt sz_b3c1)))).other W6 (Ne.symm (Nat.ne_of_lt (Nat.lt_of_lt_of_le (E_o1).lt sz_b3c1))))⟩
def Q2_o1_o2_w1 (Z : State) (o1 : Addr) (o2 : Addr) (kk_o2 : ClassId) (x0 : Int32) (w_COMPACT_STRINGS : Int32) (h0 : Heap) (n0 : Nat) (v : Option Value) (h : Heap) (L : List Loc) : Prop := ∃ (c1 : Addr), ∃ (kd2 : ClassId), v = none ∧ Fr n0 L ∧ Keep h0 h [o1] ∧ h0.size ≤ c1 ∧ Exa Z h o1 "java/lang/String" ∧ Fld Z h o1 "java/lang/String" "coder" "B" (.int 0) ∧ Fld Z h o1 "java/lang/String" "value" "[B" (.ref c1) ∧ Arv Z h c1 kd2 .byte (1 : Int32) [(.int (nar .byte (x0.toInt8.toInt32)))] (.int (0 : Int32))
set_option maxRecDepth 65536 in
set_option maxHeartbeats 40000000 in
theorem rm2_o1_o2_w1 (l : Launch) (Z : State) (a0 : Array Value) (hw : ∀ d ∈ tables_1, d.before a0 Z = true) (ws : List Jvm.Cond) (o1 : Addr) (o2 : Addr) (kk_o2 : ClassId) (x0 : Int32) (w_COMPACT_STRINGS : Int32) (h0 : Heap) (n0 : Nat) (Z0 : n0 ≤ h0.size) (V_o2 : Arv Z h0 o2 kk_o2 .char (1 : Int32) [(.int x0)] (.int (0 : Int32))) (S_COMPACT_STRINGS : Sta Z h0 "java/lang/String" "COMPACT_STRINGS" "Z" (.int w_COMPACT_STRINGS)) (hc30 : ¬ (w_COMPACT_STRINGS = (0 : Int32))) (hhi_x0 : x0 < (256 : Int32)) (E_o1 : Exa Z h0 o1 "java/lang/String") (F_coder_o1 : Fld Z h0 o1 "java/lang/String" "coder" "B" (.int 0)) (g_o1 : n0 ≤ o1) (F_value_o1 : Fld Z h0 o1 "java/lang/String" "value" "[B" .null) :
    MetFree l (⟨"java/lang/String", "<init>", "([C)V"⟩ : MethodName) (head1 (Jvm.Cond.code (⟨"java/lang/String", "<init>", "([C)V"⟩ : MethodName) jdk_42_method_3_code 2 none :: ws) ({ frames := 3, cells := 1, slots := 1, locals := 52 } : Room)) (fun a U => a = #[(.ref o1), (.ref o2)] ∧ Z.Warmed39 U.vm ∧ U.heap = h0) (fun _ _ _ _ _ => True) (fun _ U o U' => ∃ v L, o = .returned v ∧ Q2_o1_o2_w1 Z o1 o2 kk_o2 x0 w_COMPACT_STRINGS h0 n0 v U'.heap L ∧ FrameEnd U o U' L ({ frames := 3, cells := 1, slots := 1, locals := 52 } : Room).cells ({ frames := 3, cells := 1, slots := 1, locals := 52 } : Room).slots) := by
  refine MetFree.of_bodySF (plainFor_of_name pn_2) hisR ?_
  intro p e s m args below meth c s₁ Bd hml0 hP hK
  obtain ⟨rfl, hZ, hh⟩ := hP
  have hx := Bd.exec
  have hby := Bd.bytes
  have hml : c.maxLocals = 2 := hml0
  have hown : s.vm.findClass "java/lang/String" = some m.cls := findClass_of_methodNamed Bd.named
  have hnm := (name_of_methodNamed Bd.named Bd.method).1
  have X0 : Stand p l e ({ frames := 3, cells := 1, slots := 1, locals := 52 } : Room) s m #[(.ref o1), (.ref o2)] below meth c s₁ [] 0 0 := Stand.of_body Bd
  have e0 : s₁.heap = h0 := by rw [← hh, Bd.state]; rfl
  have N0 := Fr.nil n0
  have pre0 : ∀ t, Steps p.tables e below (s₁.setTop (mkF m 0 #[.val (.ref o1), .val (.ref o2)] [])) t → Steps p.tables e below (s₁.setTop (entryFrame m #[(.ref o1), (.ref o2)] 2)) t := fun t k => castTop (by first | (simp [entryFrame, mkF, argsToLocals, Value.category]; done) | rfl) k
  obtain ⟨_, _, ⟨T1, L1, k1, n1⟩, -, X1, ⟨Lc1, hQ1, l1, y1, z1⟩, st1⟩ := X0.specialBack hx (y := (⟨"java/lang/String", "<init>", "([CIILjava/lang/Void;)V"⟩ : MethodName)) rfl hown (mvT hZ (hw _ (List.mem_of_getElem? (i := 18) rfl))) (mvT hZ (hw _ (List.mem_of_getElem? (i := 19) rfl))) (mvT hZ (hw _ (List.mem_of_getElem? (i := 21) rfl))) (by decide) (backOf (W := 0) (rm3_o1_o2_0_1_null l Z a0 hw [] o1 o2 w_COMPACT_STRINGS kk_o2 x0 h0 n0 Z0 S_COMPACT_STRINGS hc30 V_o2 hhi_x0 E_o1 F_coder_o1 g_o1 F_value_o1) hZ (hw _ (List.mem_of_getElem? (i := 21) rfl)) (hw _ (List.mem_of_getElem? (i := 13) rfl)) (by decide) (by decide)) (g := (mkF m 6 #[.val (.ref o1), .val (.ref o2)] [.null, (.int 1), (.int 0), (.ref o2), (.ref o1)])) rfl (by rw [hml]; rfl) (Steps.refl _) (a := o1) (argsL := [(.ref o2), (.int 0), (.int 1), .null]) (rest := []) (lenOf pd___CIILjava_lang_Void__V rfl) rfl (by show 2 * 0 + _ ≤ _; exact Nat.le_of_eq rfl) (hb hby d2_6) (fun _ _ => ⟨rfl, e0, (by decide : 0 + 1 ≤ _), (by decide : 0 + 1 ≤ _)⟩)
  dsimp only [Pt.U, Pt.locs, Pt.cells, Pt.slots] at X1 l1 y1 z1 st1 hQ1
  subst l1 y1 z1
  obtain ⟨b1c1, kc1kd2, rfl, N1q, Kq1, s_b1c1, fq1_0, fq1_1, fq1_2, fq1_3⟩ := hQ1
  have N1 := Fr.app N0 N1q
  have g_b1c1 : n0 ≤ b1c1 := Nat.le_trans Z0 s_b1c1
  have sz_b1c1 : h0.size ≤ b1c1 := s_b1c1
  have K1 : Keep h0 T1.heap [o1] := (Keep.refl h0 [o1]).trans Kq1 (allS (Or.inl (List.mem_of_getElem? (i := 0) rfl)) all0)
  obtain ⟨fs, hr, hrun, hended, hW, hsame⟩ := X1.leave (v := none) (fun _ => rfl)
  refine ⟨_, _, pre0 _ ?_, hrun, hended, _, _, rfl, ?_, ⟨_, rfl⟩, hW, hsame.mono (by decide) (by decide)⟩
  · show Steps p.tables e below (s₁.setTop (mkF m 0 #[.val (.ref o1), .val (.ref o2)] [])) _
    refine XS.aloadN X0.here hx rfl (hb hby d2_0) rfl rfl ?_
    show Steps p.tables e below (s₁.setTop (mkF m 1 #[.val (.ref o1), .val (.ref o2)] [(.ref o1)])) _
    refine XS.aloadN X0.here hx rfl (hb hby d2_1) rfl rfl ?_
    show Steps p.tables e below (s₁.setTop (mkF m 2 #[.val (.ref o1), .val (.ref o2)] [(.ref o2), (.ref o1)])) _
    refine XS.iconst X0.here hx rfl (hb hby d2_2) ?_
    show Steps p.tables e below (s₁.setTop (mkF m 3 #[.val (.ref o1), .val (.ref o2)] [(.int 0), (.ref o2), (.ref o1)])) _
    refine XS.aloadN X0.here hx rfl (hb hby d2_3) rfl rfl ?_
    show Steps p.tables e below (s₁.setTop (mkF m 4 #[.val (.ref o1), .val (.ref o2)] [(.ref o2), (.int 0), (.ref o2), (.ref o1)])) _
    refine own_len X0 hx hZ e0 V_o2 (g := (mkF m 4 #[.val (.ref o1), .val (.ref o2)] [(.ref o2), (.int 0), (.ref o2), (.ref o1)])) rfl rfl (hb hby d2_4) _ ?_
    show Steps p.tables e below (s₁.setTop (mkF m 5 #[.val (.ref o1), .val (.ref o2)] [(.int 1), (.int 0), (.ref o2), (.ref o1)])) _
    refine XS.aconstNull X0.here hx rfl (hb hby d2_5) ?_
    show Steps p.tables e below (s₁.setTop (mkF m 6 #[.val (.ref o1), .val (.ref o2)] [.null, (.int 1), (.int 0), (.ref o2), (.ref o1)])) _
    refine st1.trans ?_
    show Steps p.tables e below (T1.setTop (mkF m 9 #[.val (.ref o1), .val (.ref o2)] [])) _
    exact X1.returnOut hx Bd.returns (hb hby d2_9) hr
  · show Q2_o1_o2_w1 Z o1 o2 kk_o2 x0 w_COMPACT_STRINGS h0 n0 _ T1.heap _
    exact ⟨b1c1, kc1kd2, rfl, N1, K1, sz_b1c1, fq1_0, fq1_1, fq1_2, fq1_3⟩
def Q1_1_x0_x1_x2_m1_256_m1_256_m1_256 (Z : State) (x0 : Int32) (x1 : Int32) (x2 : Int32) (w_COMPACT_STRINGS : Int32) (h0 : Heap) (n0 : Nat) (v : Option Value) (h : Heap) (L : List Loc) : Prop := ∃ (c1 : Addr), ∃ (c2 : Addr), ∃ (kd3 : ClassId), v = some (.ref c1) ∧ Fr n0 L ∧ Keep h0 h [] ∧ h0.size ≤ c1 ∧ h0.size ≤ c2 ∧ c1 ≠ c2 ∧ Exa Z h c1 "java/lang/String" ∧ Fld Z h c1 "java/lang/String" "coder" "B" (.int 0) ∧ Fld Z h c1 "java/lang/String" "value" "[B" (.ref c2) ∧ Arv Z h c2 kd3 .byte (1 : Int32) [(.int (nar .byte (x0.toInt8.toInt32)))] (.int (0 : Int32))
set_option maxRecDepth 65536 in
set_option maxHeartbeats 40000000 in
theorem rm1_1_x0_x1_x2_m1_256_m1_256_m1_256 (l : Launch) (Z : State) (a0 : Array Value) (hw : ∀ d ∈ tables_1, d.before a0 Z = true) (ws : List Jvm.Cond) (x0 : Int32) (x1 : Int32) (x2 : Int32) (w_COMPACT_STRINGS : Int32) (h0 : Heap) (n0 : Nat) (Z0 : n0 ≤ h0.size) (hlo_x0 : (-1 : Int32) < x0) (hhi_x0 : x0 < (256 : Int32)) (S_COMPACT_STRINGS : Sta Z h0 "java/lang/String" "COMPACT_STRINGS" "Z" (.int w_COMPACT_STRINGS)) (hc30 : ¬ (w_COMPACT_STRINGS = (0 : Int32))) :
    MetFree l (⟨"com/example/stanza_filter/stanzafilter/engine/PrivacyItemGroupPinLaw", "makeString", "(ICCC)Ljava/lang/String;"⟩ : MethodName) (head1 (Jvm.Cond.code (⟨"com/example/stanza_filter/stanzafilter/engine/PrivacyItemGroupPinLaw", "makeString", "(ICCC)Ljava/lang/String;"⟩ : MethodName) method_3_code 5 (some (.object "java/lang/String")) :: ws) ({ frames := 4, cells := 3, slots := 6, locals := 66 } : Room)) (fun a U => a = #[(.int 1), (.int x0), (.int x1), (.int x2)] ∧ Z.Warmed39 U.vm ∧ U.heap = h0) (fun _ _ _ _ _ => True) (fun _ U o U' => ∃ v L, o = .returned v ∧ Q1_1_x0_x1_x2_m1_256_m1_256_m1_256 Z x0 x1 x2 w_COMPACT_STRINGS h0 n0 v U'.heap L ∧ FrameEnd U o U' L ({ frames := 4, cells := 3, slots := 6, locals := 66 } : Room).cells ({ frames := 4, cells := 3, slots := 6, locals := 66 } : Room).slots) := by
  refine MetFree.of_bodySF (plainFor_of_name pn_1) hisR ?_
  intro p e s m args below meth c s₁ Bd hml0 hP hK
  obtain ⟨rfl, hZ, hh⟩ := hP
  have hx := Bd.exec
  have hby := Bd.bytes
  have hml : c.maxLocals = 5 := hml0
  have hown : s.vm.findClass "com/example/stanza_filter/stanzafilter/engine/PrivacyItemGroupPinLaw" = some m.cls := findClass_of_methodNamed Bd.named
  have hnm := (name_of_methodNamed Bd.named Bd.method).1
  have X0 : Stand p l e ({ frames := 4, cells := 3, slots := 6, locals := 66 } : Room) s m #[(.int 1), (.int x0), (.int x1), (.int x2)] below meth c s₁ [] 0 0 := Stand.of_body Bd
  have e0 : s₁.heap = h0 := by rw [← hh, Bd.state]; rfl
  have N0 := Fr.nil n0
  have pre0 : ∀ t, Steps p.tables e below (s₁.setTop (mkF m 0 #[.val (.int 1), .val (.int x0), .val (.int x1), .val (.int x2), .unset] [])) t → Steps p.tables e below (s₁.setTop (entryFrame m #[(.int 1), (.int x0), (.int x1), (.int x2)] 5)) t := fun t k => castTop (by first | (simp [entryFrame, mkF, argsToLocals, Value.category]; done) | rfl) k
  obtain ⟨T1, h1, k1, X1, e1, E1, A1, st1⟩ := newP X0 hx hZ (hw _ (List.mem_of_getElem? (i := 14) rfl)) e0 (g := (mkF m 21 #[.val (.int 1), .val (.int x0), .val (.int x1), .val (.int x2), .unset] [(.int 1)])) rfl (hb hby d1_21) rfl (by decide) (cap := 1) (by decide) (by decide) (by decide) (by decide)
  obtain ⟨b1, g1⟩ : ∃ z, z = h0.size := ⟨_, rfl⟩
  have s_b1 : h0.size ≤ b1 := Nat.le_of_eq g1.symm
  have g_b1 : n0 ≤ b1 := Nat.le_trans Z0 s_b1
  have sz_b1 : h0.size ≤ b1 := s_b1
  rw [← g1] at A1 st1
  have K1 : Keep h0 h1 [] := (Keep.refl h0 []).ext E1
  have V_b1 : Arv Z h1 b1 k1 .char (1 : Int32) [(.int 0)] (.int (0 : Int32)) := (Arv.new A1 (by decide)).pad (pad_rep [] (.int (0 : Int32)) 1)
  obtain ⟨T2, h2, X2, e2, W2, Vw2, st2⟩ := own_stC X1 hx hZ e1 V_b1 (x' := x0) (own_nar hlo_x0 hhi_x0) 0 rfl ⟨by decide, by decide⟩ (Nat.le_of_ble_eq_true rfl) (g := (mkF m 29 #[.val (.int 1), .val (.int x0), .val (.int x1), .val (.int x2), .val (.ref b1)] [(.int x0), (.int 0), (.ref b1)])) rfl rfl (hb hby d1_29)
  have N2 := Fr.snoc X2 N0 g_b1
  have K2 : Keep h0 h2 [] := K1.wr W2 (Or.inr sz_b1)
  have V2_b1 : Arv Z h2 b1 k1 .char (1 : Int32) [(.int x0)] (.int (0 : Int32)) := Vw2
  obtain ⟨T3, h3, X3, e3, E3, A3, D3, -, st3⟩ := newO X2 hx hZ hown (hw _ (List.mem_of_getElem? (i := 11) rfl)) (hw _ (List.mem_of_getElem? (i := 12) rfl)) (hw _ (List.mem_of_getElem? (i := 13) rfl)) e2 (g := (mkF m 30 #[.val (.int 1), .val (.int x0), .val (.int x1), .val (.int x2), .val (.ref b1)] [])) rfl (hb hby d1_30) (by decide) (by decide)
  obtain ⟨b3, g3⟩ : ∃ z, z = h2.size := ⟨_, rfl⟩
  have s_b3 : h2.size ≤ b3 := Nat.le_of_eq g3.symm
  have g_b3 : n0 ≤ b3 := Nat.le_trans (Nat.le_trans Z0 K2.1) s_b3
  have sz_b3 : h0.size ≤ b3 := Nat.le_trans K2.1 s_b3
  rw [← g3] at A3 D3 st3
  have K3 : Keep h0 h3 [] := K2.ext E3
  have F_value_b3 : Fld Z h3 b3 "java/lang/String" "value" "[B" .null := D3 (Or.inr (hw _ (List.mem_of_getElem? (i := 27) rfl))) (ty := (.array .byte)) (by decide)
  have F_coder_b3 : Fld Z h3 b3 "java/lang/String" "coder" "B" (.int 0) := D3 (Or.inr (hw _ (List.mem_of_getElem? (i := 28) rfl))) (ty := .byte) (by decide)
  obtain ⟨_, _, ⟨T4, L4, k4, n4⟩, -, X4, ⟨Lc4, hQ4, l4, y4, z4⟩, st4⟩ := X3.specialBack hx (y := (⟨"java/lang/String", "<init>", "([C)V"⟩ : MethodName)) rfl hown (mvT hZ (hw _ (List.mem_of_getElem? (i := 15) rfl))) (mvT hZ (hw _ (List.mem_of_getElem? (i := 16) rfl))) (mvT hZ (hw _ (List.mem_of_getElem? (i := 17) rfl))) (by decide) (backOf (W := 1) (rm2_o1_o2_w1 l Z a0 hw [] b3 b1 k1 x0 w_COMPACT_STRINGS h3 n0 (Nat.le_trans Z0 K3.1) (V2_b1.ext E3) (own_sta_keep S_COMPACT_STRINGS K3) hc30 hhi_x0 A3 F_coder_b3 g_b3 F_value_b3) hZ (hw _ (List.mem_of_getElem? (i := 17) rfl)) (hw _ (List.mem_of_getElem? (i := 13) rfl)) (by decide) (by decide)) (g := (mkF m 36 #[.val (.int 1), .val (.int x0), .val (.int x1), .val (.int x2), .val (.ref b1)] [(.ref b1), (.ref b3), (.ref b3)])) rfl (by rw [hml]; rfl) (Steps.refl _) (a := b3) (argsL := [(.ref b1)]) (rest := [(.ref b3)]) (lenOf pd___C_V rfl) rfl (by show 2 * 0 + _ ≤ _; exact Nat.le_of_eq rfl) (hb hby d1_36) (fun _ _ => ⟨rfl, e3, (by decide : 2 + 1 ≤ _), (by decide : 5 + 1 ≤ _)⟩)
  dsimp only [Pt.U, Pt.locs, Pt.cells, Pt.slots] at X4 l4 y4 z4 st4 hQ4
  subst l4 y4 z4
  obtain ⟨b4c1, kc4kd2, rfl, N4q, Kq4, s_b4c1, fq4_0, fq4_1, fq4_2, fq4_3⟩ := hQ4
  have N4 := Fr.app N2 N4q
  have g_b4c1 : n0 ≤ b4c1 := Nat.le_trans (Nat.le_trans Z0 K3.1) s_b4c1
  have sz_b4c1 : h0.size ≤ b4c1 := Nat.le_trans K3.1 s_b4c1
  have K4 : Keep h0 T4.heap [] := K3.trans Kq4 (allS (Or.inr sz_b3) all0)
  obtain ⟨fs, hr, hrun, hended, hW, hsame⟩ := X4.leave (v := some (.ref b3)) (fun h => by rw [Bd.returns] at h; cases h)
  refine ⟨_, _, pre0 _ ?_, hrun, hended, _, _, rfl, ?_, ⟨_, rfl⟩, hW, hsame.mono (by decide) (by decide)⟩
  · show Steps p.tables e below (s₁.setTop (mkF m 0 #[.val (.int 1), .val (.int x0), .val (.int x1), .val (.int x2), .unset] [])) _
    refine XS.iloadN X0.here hx rfl (hb hby d1_0) rfl ?_
    show Steps p.tables e below (s₁.setTop (mkF m 1 #[.val (.int 1), .val (.int x0), .val (.int x1), .val (.int x2), .unset] [(.int 1)])) _
    refine XS.ifYes X0.here hx rfl (pc0 := 1) (pc' := 15) rfl (hb hby d1_1) rfl ((if0 _ _).trans (feq (by decide : ¬ ((1 : Int32) = (0 : Int32)))).2) (by decide) (by decide) ?_
    show Steps p.tables e below (s₁.setTop (mkF m 15 #[.val (.int 1), .val (.int x0), .val (.int x1), .val (.int x2), .unset] [])) _
    refine XS.iloadN X0.here hx rfl (hb hby d1_15) rfl ?_
    show Steps p.tables e below (s₁.setTop (mkF m 16 #[.val (.int 1), .val (.int x0), .val (.int x1), .val (.int x2), .unset] [(.int 1)])) _
    refine XS.iconst X0.here hx rfl (hb hby d1_16) ?_
    show Steps p.tables e below (s₁.setTop (mkF m 17 #[.val (.int 1), .val (.int x0), .val (.int x1), .val (.int x2), .unset] [(.int 1), (.int 1)])) _
    refine XS.icmpNo X0.here hx rfl (hb hby d1_17) rfl (teq (by decide : (1 : Int32) = (1 : Int32))).2 ?_
    show Steps p.tables e below (s₁.setTop (mkF m 20 #[.val (.int 1), .val (.int x0), .val (.int x1), .val (.int x2), .unset] [])) _
    refine XS.iconst X0.here hx rfl (hb hby d1_20) ?_
    show Steps p.tables e below (s₁.setTop (mkF m 21 #[.val (.int 1), .val (.int x0), .val (.int x1), .val (.int x2), .unset] [(.int 1)])) _
    refine st1 _ ?_
    show Steps p.tables e below (T1.setTop (mkF m 23 #[.val (.int 1), .val (.int x0), .val (.int x1), .val (.int x2), .unset] [(.ref b1)])) _
    refine XS.astore X1.here hx rfl (hb hby d1_23) rfl rfl (l' := #[.val (.int 1), .val (.int x0), .val (.int x1), .val (.int x2), .val (.ref b1)]) rfl ?_
    show Steps p.tables e below (T1.setTop (mkF m 25 #[.val (.int 1), .val (.int x0), .val (.int x1), .val (.int x2), .val (.ref b1)] [])) _
    refine XS.aload X1.here hx rfl (hb hby d1_25) rfl rfl ?_
    show Steps p.tables e below (T1.setTop (mkF m 27 #[.val (.int 1), .val (.int x0), .val (.int x1), .val (.int x2), .val (.ref b1)] [(.ref b1)])) _
    refine XS.iconst X1.here hx rfl (hb hby d1_27) ?_
    show Steps p.tables e below (T1.setTop (mkF m 28 #[.val (.int 1), .val (.int x0), .val (.int x1), .val (.int x2), .val (.ref b1)] [(.int 0), (.ref b1)])) _
    refine XS.iloadN X1.here hx rfl (hb hby d1_28) rfl ?_
    show Steps p.tables e below (T1.setTop (mkF m 29 #[.val (.int 1), .val (.int x0), .val (.int x1), .val (.int x2), .val (.ref b1)] [(.int x0), (.int 0), (.ref b1)])) _
    refine st2 _ ?_
    show Steps p.tables e below (T2.setTop (mkF m 30 #[.val (.int 1), .val (.int x0), .val (.int x1), .val (.int x2), .val (.ref b1)] [])) _
    refine st3 _ ?_
    show Steps p.tables e below (T3.setTop (mkF m 33 #[.val (.int 1), .val (.int x0), .val (.int x1), .val (.int x2), .val (.ref b1)] [(.ref b3)])) _
    refine XS.dup X3.here hx rfl (hb hby d1_33) rfl rfl ?_
    show Steps p.tables e below (T3.setTop (mkF m 34 #[.val (.int 1), .val (.int x0), .val (.int x1), .val (.int x2), .val (.ref b1)] [(.ref b3), (.ref b3)])) _
    refine XS.aload X3.here hx rfl (hb hby d1_34) rfl rfl ?_
    show Steps p.tables e below (T3.setTop (mkF m 36 #[.val (.int 1), .val (.int x0), .val (.int x1), .val (.int x2), .val (.ref b1)] [(.ref b1), (.ref b3), (.ref b3)])) _
    refine st4.trans ?_
    show Steps p.tables e below (T4.setTop (mkF m 39 #[.val (.int 1), .val (.int x0), .val (.int x1), .val (.int x2), .val (.ref b1)] [(.ref b3)])) _
    jvm_step X4.here [X4.here.top, hx, (hb hby d1_39), X4.method', Bd.returns, Value.isRef, FieldType.isReference]
    first | (intro acts; rw [hr _ acts rfl rfl rfl]) | rw [hr _ _ rfl rfl rfl]
    exact Steps.refl _
  · show Q1_1_x0_x1_x2_m1_256_m1_256_m1_256 Z x0 x1 x2 w_COMPACT_STRINGS h0 n0 _ T4.heap _
    exact ⟨b3, b4c1, kc4kd2, rfl, N4, K4, sz_b3, sz_b4c1, (Nat.ne_of_lt (Nat.lt_of_lt_of_le (A3).lt s_b4c1)), fq4_0, fq4_1, fq4_2, fq4_3⟩
set_option maxRecDepth 65536 in
set_option maxHeartbeats 40000000 in
theorem pc0_C1 {p : Program} {l : Launch} {e : Env} {s : State} {m : MethodId} {args : Array Value} {below : List Frame} {meth : Method} {c : Code} {T0 : State} {locs : List Loc} {Z : State} {a0 : Array Value} {h0 : Heap} {n0 : Nat} (q1 : Int64) (p2 : Int32) (p3 : Int32) (p4 : Int32) (p5 : Int32) (ord : Int64) (act : Addr) (sc : Int32) (scv : Value) (x0 : Int32) (x1 : Int32) (x2 : Int32) (w_COMPACT_STRINGS : Int32)
    (X0 : Stand p l e room_1 s m args below meth c T0 locs 0 0) (hx : p.tables.exec = Jvm.exec) (hZ : Z.Warmed39 s.vm) (hw : ∀ d ∈ tables_1, d.before a0 Z = true) (hby : c.code = code) (hml : c.maxLocals = 17) (hown : s.vm.findClass "com/example/stanza_filter/stanzafilter/engine/PrivacyItemGroupPinLaw" = some m.cls) (e0 : T0.heap = h0) (Z0 : n0 ≤ h0.size) (N0 : Fr n0 locs) (hln : (((p2.toUInt32 >>> ((4 : Int32) &&& 31).toUInt32).toInt32) &&& (3 : Int32)) = (1 : Int32)) (hx0 : ((p3 &&& (255 : Int32)).toUInt32.toUInt16.toUInt32.toInt32) = x0) (hx1 : ((p4 &&& (255 : Int32)).toUInt32.toUInt16.toUInt32.toInt32) = x1) (hx2 : ((p5 &&& (255 : Int32)).toUInt32.toUInt16.toUInt32.toInt32) = x2) (hlo_x0 : (-1 : Int32) < x0) (hhi_x0 : x0 < (256 : Int32)) (S_COMPACT_STRINGS : Sta Z h0 "java/lang/String" "COMPACT_STRINGS" "Z" (.int w_COMPACT_STRINGS)) (hc30 : ¬ (w_COMPACT_STRINGS = (0 : Int32))) :
    ∃ (T' : State) (h' : Heap) (L' : List Loc) (vm' : Vm) (k' : Nat) (b1c1 : Addr), Stand p l e room_1 (s.setVm vm') m args below meth c T' L' 4 10 ∧ T'.heap = h' ∧ Keep h0 h' [] ∧ Fr n0 L' ∧ s.Since vm' k' ∧ k' ≤ h'.size ∧ Z.Warmed39 (s.setVm vm').vm ∧ (s.setVm vm').vm.findClass "com/example/stanza_filter/stanzafilter/engine/PrivacyItemGroupPinLaw" = some m.cls ∧ h0.size ≤ b1c1 ∧ Exa Z h' b1c1 "java/lang/String" ∧ ∀ target, Steps p.tables e below (T'.setTop (mkF m 133 #[.val (.long q1), .second, .val (.int p2), .val (.int p3), .val (.int p4), .val (.int p5), .val (.long ord), .second, .val (.ref act), .val (.int sc), .val scv, .val (.int 1), .val (.int x0), .val (.int x1), .val (.int x2), .val (.ref b1c1), .unset] [])) target → Steps p.tables e below (T0.setTop (mkF m 87 #[.val (.long q1), .second, .val (.int p2), .val (.int p3), .val (.int p4), .val (.int p5), .val (.long ord), .second, .val (.ref act), .val (.int sc), .val scv, .unset, .unset, .unset, .unset, .unset, .unset] [])) target := by
  obtain ⟨_, _, ⟨T1, L1, k1, n1⟩, -, X1, ⟨Lc1, hQ1, l1, y1, z1⟩, st1⟩ := Jvm.LawKit.callS X0 hx (y := (⟨"com/example/stanza_filter/stanzafilter/engine/PrivacyItemGroupPinLaw", "makeString", "(ICCC)Ljava/lang/String;"⟩ : MethodName)) hown (mvT hZ (hw _ (List.mem_of_getElem? (i := 7) rfl))) (mvT hZ (hw _ (List.mem_of_getElem? (i := 8) rfl))) (mvT hZ (hw _ (List.mem_of_getElem? (i := 9) rfl))) (mvT hZ (hw _ (List.mem_of_getElem? (i := 10) rfl))) (by decide) (backOf (W := 0) (rm1_1_x0_x1_x2_m1_256_m1_256_m1_256 l Z a0 hw [] x0 x1 x2 w_COMPACT_STRINGS h0 n0 Z0 hlo_x0 hhi_x0 S_COMPACT_STRINGS hc30) hZ (hw _ (List.mem_of_getElem? (i := 10) rfl)) (hw _ (List.mem_of_getElem? (i := 9) rfl)) (by decide) (by decide)) (g := (mkF m 128 #[.val (.long q1), .second, .val (.int p2), .val (.int p3), .val (.int p4), .val (.int p5), .val (.long ord), .second, .val (.ref act), .val (.int sc), .val scv, .val (.int 1), .val (.int x0), .val (.int x1), .val (.int x2), .unset, .unset] [(.int x2), (.int x1), (.int x0), (.int 1)])) rfl (by rw [hml]; rfl) (argsL := [(.int 1), (.int x0), (.int x1), (.int x2)]) (rest := []) (lenOf pd__ICCC_Ljava_lang_String_ rfl) rfl (by show 2 * 0 + _ ≤ _; exact Nat.le_of_eq rfl) (hb hby at_128) (fun _ _ => ⟨rfl, e0, (by decide : 0 + 3 ≤ _), (by decide : 0 + 6 ≤ _)⟩)
  dsimp only [Pt.U, Pt.locs, Pt.cells, Pt.slots] at X1 l1 y1 z1 st1 hQ1
  subst l1 y1 z1
  obtain ⟨b1c1, b1c2, kc1kd3, rfl, N1q, Kq1, s_b1c1, s_b1c2, nq_b1c1_b1c2, fq1_0, fq1_1, fq1_2, fq1_3⟩ := hQ1
  have N1 := Fr.app N0 N1q
  have g_b1c1 : n0 ≤ b1c1 := Nat.le_trans Z0 s_b1c1
  have sz_b1c1 : h0.size ≤ b1c1 := s_b1c1
  have g_b1c2 : n0 ≤ b1c2 := Nat.le_trans Z0 s_b1c2
  have sz_b1c2 : h0.size ≤ b1c2 := s_b1c2
  have K1 : Keep h0 T1.heap [] := (Keep.refl h0 []).trans Kq1 all0
  have hZ2 : Z.Warmed39 T1.vm := wtrans hZ X1.warmed
  have hown2 : T1.vm.findClass "com/example/stanza_filter/stanzafilter/engine/PrivacyItemGroupPinLaw" = some m.cls := by rw [X1.warmed.alike.findClass]; exact hown
  have hS2 : s.Since T1.vm T1.heap.size := X1.warmed.since _
  have hk2 : T1.heap.size ≤ T1.heap.size := own_geT rfl
  have XR2 : Stand p l e _ (s.setVm T1.vm) m _ below meth c T1 _ _ _ := X1.retabled X1.warmed.wide
  refine ⟨T1, _, _, _, _, b1c1, (XR2.mono (by decide) (by decide)), rfl, K1, N1, hS2, hk2, hZ2, hown2, sz_b1c1, fq1_0, fun target kt => ?_⟩
  show Steps p.tables e below (T0.setTop (mkF m 87 #[.val (.long q1), .second, .val (.int p2), .val (.int p3), .val (.int p4), .val (.int p5), .val (.long ord), .second, .val (.ref act), .val (.int sc), .val scv, .unset, .unset, .unset, .unset, .unset, .unset] [])) _
  refine XS.iloadN X0.here hx rfl (hb hby at_87) rfl ?_
  show Steps p.tables e below (T0.setTop (mkF m 88 #[.val (.long q1), .second, .val (.int p2), .val (.int p3), .val (.int p4), .val (.int p5), .val (.long ord), .second, .val (.ref act), .val (.int sc), .val scv, .unset, .unset, .unset, .unset, .unset, .unset] [(.int p2)])) _
  refine XS.iconst X0.here hx rfl (hb hby at_88) ?_
  show Steps p.tables e below (T0.setTop (mkF m 89 #[.val (.long q1), .second, .val (.int p2), .val (.int p3), .val (.int p4), .val (.int p5), .val (.long ord), .second, .val (.ref act), .val (.int sc), .val scv, .unset, .unset, .unset, .unset, .unset, .unset] [(.int 4), (.int p2)])) _
  refine XS.iushr X0.here hx rfl (hb hby at_89) rfl ?_
  show Steps p.tables e below (T0.setTop (mkF m 90 #[.val (.long q1), .second, .val (.int p2), .val (.int p3), .val (.int p4), .val (.int p5), .val (.long ord), .second, .val (.ref act), .val (.int sc), .val scv, .unset, .unset, .unset, .unset, .unset, .unset] [(.int ((p2.toUInt32 >>> ((4 : Int32) &&& 31).toUInt32).toInt32))])) _
  refine XS.iconst X0.here hx rfl (hb hby at_90) ?_
  show Steps p.tables e below (T0.setTop (mkF m 91 #[.val (.long q1), .second, .val (.int p2), .val (.int p3), .val (.int p4), .val (.int p5), .val (.long ord), .second, .val (.ref act), .val (.int sc), .val scv, .unset, .unset, .unset, .unset, .unset, .unset] [(.int 3), (.int ((p2.toUInt32 >>> ((4 : Int32) &&& 31).toUInt32).toInt32))])) _
  refine XS.iand X0.here hx rfl (hb hby at_91) rfl ?_
  show Steps p.tables e below (T0.setTop (mkF m 92 #[.val (.long q1), .second, .val (.int p2), .val (.int p3), .val (.int p4), .val (.int p5), .val (.long ord), .second, .val (.ref act), .val (.int sc), .val scv, .unset, .unset, .unset, .unset, .unset, .unset] [(.int (((p2.toUInt32 >>> ((4 : Int32) &&& 31).toUInt32).toInt32) &&& (3 : Int32)))])) _
  rw [hln]
  show Steps p.tables e below (T0.setTop (mkF m 92 #[.val (.long q1), .second, .val (.int p2), .val (.int p3), .val (.int p4), .val (.int p5), .val (.long ord), .second, .val (.ref act), .val (.int sc), .val scv, .unset, .unset, .unset, .unset, .unset, .unset] [(.int 1)])) _
  refine XS.istore X0.here hx rfl (hb hby at_92) rfl (l' := #[.val (.long q1), .second, .val (.int p2), .val (.int p3), .val (.int p4), .val (.int p5), .val (.long ord), .second, .val (.ref act), .val (.int sc), .val scv, .val (.int 1), .unset, .unset, .unset, .unset, .unset]) rfl ?_
  show Steps p.tables e below (T0.setTop (mkF m 94 #[.val (.long q1), .second, .val (.int p2), .val (.int p3), .val (.int p4), .val (.int p5), .val (.long ord), .second, .val (.ref act), .val (.int sc), .val scv, .val (.int 1), .unset, .unset, .unset, .unset, .unset] [])) _
  refine XS.iloadN X0.here hx rfl (hb hby at_94) rfl ?_
  show Steps p.tables e below (T0.setTop (mkF m 95 #[.val (.long q1), .second, .val (.int p2), .val (.int p3), .val (.int p4), .val (.int p5), .val (.long ord), .second, .val (.ref act), .val (.int sc), .val scv, .val (.int 1), .unset, .unset, .unset, .unset, .unset] [(.int p3)])) _
  refine XS.sipush X0.here hx rfl (hb hby at_95) ?_
  show Steps p.tables e below (T0.setTop (mkF m 98 #[.val (.long q1), .second, .val (.int p2), .val (.int p3), .val (.int p4), .val (.int p5), .val (.long ord), .second, .val (.ref act), .val (.int sc), .val scv, .val (.int 1), .unset, .unset, .unset, .unset, .unset] [(.int 255), (.int p3)])) _
  refine XS.iand X0.here hx rfl (hb hby at_98) rfl ?_
  show Steps p.tables e below (T0.setTop (mkF m 99 #[.val (.long q1), .second, .val (.int p2), .val (.int p3), .val (.int p4), .val (.int p5), .val (.long ord), .second, .val (.ref act), .val (.int sc), .val scv, .val (.int 1), .unset, .unset, .unset, .unset, .unset] [(.int (p3 &&& (255 : Int32)))])) _
  refine XS.i2c X0.here hx rfl (hb hby at_99) rfl ?_
  show Steps p.tables e below (T0.setTop (mkF m 100 #[.val (.long q1), .second, .val (.int p2), .val (.int p3), .val (.int p4), .val (.int p5), .val (.long ord), .second, .val (.ref act), .val (.int sc), .val scv, .val (.int 1), .unset, .unset, .unset, .unset, .unset] [(.int ((p3 &&& (255 : Int32)).toUInt32.toUInt16.toUInt32.toInt32))])) _
  rw [hx0]
  show Steps p.tables e below (T0.setTop (mkF m 100 #[.val (.long q1), .second, .val (.int p2), .val (.int p3), .val (.int p4), .val (.int p5), .val (.long ord), .second, .val (.ref act), .val (.int sc), .val scv, .val (.int 1), .unset, .unset, .unset, .unset, .unset] [(.int x0)])) _
  refine XS.istore X0.here hx rfl (hb hby at_100) rfl (l' := #[.val (.long q1), .second, .val (.int p2), .val (.int p3), .val (.int p4), .val (.int p5), .val (.long ord), .second, .val (.ref act), .val (.int sc), .val scv, .val (.int 1), .val (.int x0), .unset, .unset, .unset, .unset]) rfl ?_
  show Steps p.tables e below (T0.setTop (mkF m 102 #[.val (.long q1), .second, .val (.int p2), .val (.int p3), .val (.int p4), .val (.int p5), .val (.long ord), .second, .val (.ref act), .val (.int sc), .val scv, .val (.int 1), .val (.int x0), .unset, .unset, .unset, .unset] [])) _
  refine XS.iload X0.here hx rfl (hb hby at_102) rfl ?_
  show Steps p.tables e below (T0.setTop (mkF m 104 #[.val (.long q1), .second, .val (.int p2), .val (.int p3), .val (.int p4), .val (.int p5), .val (.long ord), .second, .val (.ref act), .val (.int sc), .val scv, .val (.int 1), .val (.int x0), .unset, .unset, .unset, .unset] [(.int p4)])) _
  refine XS.sipush X0.here hx rfl (hb hby at_104) ?_
  show Steps p.tables e below (T0.setTop (mkF m 107 #[.val (.long q1), .second, .val (.int p2), .val (.int p3), .val (.int p4), .val (.int p5), .val (.long ord), .second, .val (.ref act), .val (.int sc), .val scv, .val (.int 1), .val (.int x0), .unset, .unset, .unset, .unset] [(.int 255), (.int p4)])) _
  refine XS.iand X0.here hx rfl (hb hby at_107) rfl ?_
  show Steps p.tables e below (T0.setTop (mkF m 108 #[.val (.long q1), .second, .val (.int p2), .val (.int p3), .val (.int p4), .val (.int p5), .val (.long ord), .second, .val (.ref act), .val (.int sc), .val scv, .val (.int 1), .val (.int x0), .unset, .unset, .unset, .unset] [(.int (p4 &&& (255 : Int32)))])) _
  refine XS.i2c X0.here hx rfl (hb hby at_108) rfl ?_
  show Steps p.tables e below (T0.setTop (mkF m 109 #[.val (.long q1), .second, .val (.int p2), .val (.int p3), .val (.int p4), .val (.int p5), .val (.long ord), .second, .val (.ref act), .val (.int sc), .val scv, .val (.int 1), .val (.int x0), .unset, .unset, .unset, .unset] [(.int ((p4 &&& (255 : Int32)).toUInt32.toUInt16.toUInt32.toInt32))])) _
  rw [hx1]
  show Steps p.tables e below (T0.setTop (mkF m 109 #[.val (.long q1), .second, .val (.int p2), .val (.int p3), .val (.int p4), .val (.int p5), .val (.long ord), .second, .val (.ref act), .val (.int sc), .val scv, .val (.int 1), .val (.int x0), .unset, .unset, .unset, .unset] [(.int x1)])) _
  refine XS.istore X0.here hx rfl (hb hby at_109) rfl (l' := #[.val (.long q1), .second, .val (.int p2), .val (.int p3), .val (.int p4), .val (.int p5), .val (.long ord), .second, .val (.ref act), .val (.int sc), .val scv, .val (.int 1), .val (.int x0), .val (.int x1), .unset, .unset, .unset]) rfl ?_
  show Steps p.tables e below (T0.setTop (mkF m 111 #[.val (.long q1), .second, .val (.int p2), .val (.int p3), .val (.int p4), .val (.int p5), .val (.long ord), .second, .val (.ref act), .val (.int sc), .val scv, .val (.int 1), .val (.int x0), .val (.int x1), .unset, .unset, .unset] [])) _
  refine XS.iload X0.here hx rfl (hb hby at_111) rfl ?_
  show Steps p.tables e below (T0.setTop (mkF m 113 #[.val (.long q1), .second, .val (.int p2), .val (.int p3), .val (.int p4), .val (.int p5), .val (.long ord), .second, .val (.ref act), .val (.int sc), .val scv, .val (.int 1), .val (.int x0), .val (.int x1), .unset, .unset, .unset] [(.int p5)])) _
  refine XS.sipush X0.here hx rfl (hb hby at_113) ?_
  show Steps p.tables e below (T0.setTop (mkF m 116 #[.val (.long q1), .second, .val (.int p2), .val (.int p3), .val (.int p4), .val (.int p5), .val (.long ord), .second, .val (.ref act), .val (.int sc), .val scv, .val (.int 1), .val (.int x0), .val (.int x1), .unset, .unset, .unset] [(.int 255), (.int p5)])) _
  refine XS.iand X0.here hx rfl (hb hby at_116) rfl ?_
  show Steps p.tables e below (T0.setTop (mkF m 117 #[.val (.long q1), .second, .val (.int p2), .val (.int p3), .val (.int p4), .val (.int p5), .val (.long ord), .second, .val (.ref act), .val (.int sc), .val scv, .val (.int 1), .val (.int x0), .val (.int x1), .unset, .unset, .unset] [(.int (p5 &&& (255 : Int32)))])) _
  refine XS.i2c X0.here hx rfl (hb hby at_117) rfl ?_
  show Steps p.tables e below (T0.setTop (mkF m 118 #[.val (.long q1), .second, .val (.int p2), .val (.int p3), .val (.int p4), .val (.int p5), .val (.long ord), .second, .val (.ref act), .val (.int sc), .val scv, .val (.int 1), .val (.int x0), .val (.int x1), .unset, .unset, .unset] [(.int ((p5 &&& (255 : Int32)).toUInt32.toUInt16.toUInt32.toInt32))])) _
  rw [hx2]
  show Steps p.tables e below (T0.setTop (mkF m 118 #[.val (.long q1), .second, .val (.int p2), .val (.int p3), .val (.int p4), .val (.int p5), .val (.long ord), .second, .val (.ref act), .val (.int sc), .val scv, .val (.int 1), .val (.int x0), .val (.int x1), .unset, .unset, .unset] [(.int x2)])) _
  refine XS.istore X0.here hx rfl (hb hby at_118) rfl (l' := #[.val (.long q1), .second, .val (.int p2), .val (.int p3), .val (.int p4), .val (.int p5), .val (.long ord), .second, .val (.ref act), .val (.int sc), .val scv, .val (.int 1), .val (.int x0), .val (.int x1), .val (.int x2), .unset, .unset]) rfl ?_
  show Steps p.tables e below (T0.setTop (mkF m 120 #[.val (.long q1), .second, .val (.int p2), .val (.int p3), .val (.int p4), .val (.int p5), .val (.long ord), .second, .val (.ref act), .val (.int sc), .val scv, .val (.int 1), .val (.int x0), .val (.int x1), .val (.int x2), .unset, .unset] [])) _
  refine XS.iload X0.here hx rfl (hb hby at_120) rfl ?_
  show Steps p.tables e below (T0.setTop (mkF m 122 #[.val (.long q1), .second, .val (.int p2), .val (.int p3), .val (.int p4), .val (.int p5), .val (.long ord), .second, .val (.ref act), .val (.int sc), .val scv, .val (.int 1), .val (.int x0), .val (.int x1), .val (.int x2), .unset, .unset] [(.int 1)])) _
  refine XS.iload X0.here hx rfl (hb hby at_122) rfl ?_
  show Steps p.tables e below (T0.setTop (mkF m 124 #[.val (.long q1), .second, .val (.int p2), .val (.int p3), .val (.int p4), .val (.int p5), .val (.long ord), .second, .val (.ref act), .val (.int sc), .val scv, .val (.int 1), .val (.int x0), .val (.int x1), .val (.int x2), .unset, .unset] [(.int x0), (.int 1)])) _
  refine XS.iload X0.here hx rfl (hb hby at_124) rfl ?_
  show Steps p.tables e below (T0.setTop (mkF m 126 #[.val (.long q1), .second, .val (.int p2), .val (.int p3), .val (.int p4), .val (.int p5), .val (.long ord), .second, .val (.ref act), .val (.int sc), .val scv, .val (.int 1), .val (.int x0), .val (.int x1), .val (.int x2), .unset, .unset] [(.int x1), (.int x0), (.int 1)])) _
  refine XS.iload X0.here hx rfl (hb hby at_126) rfl ?_
  show Steps p.tables e below (T0.setTop (mkF m 128 #[.val (.long q1), .second, .val (.int p2), .val (.int p3), .val (.int p4), .val (.int p5), .val (.long ord), .second, .val (.ref act), .val (.int sc), .val scv, .val (.int 1), .val (.int x0), .val (.int x1), .val (.int x2), .unset, .unset] [(.int x2), (.int x1), (.int x0), (.int 1)])) _
  refine st1 _ ?_
  show Steps p.tables e below (T1.setTop (mkF m 131 #[.val (.long q1), .second, .val (.int p2), .val (.int p3), .val (.int p4), .val (.int p5), .val (.long ord), .second, .val (.ref act), .val (.int sc), .val scv, .val (.int 1), .val (.int x0), .val (.int x1), .val (.int x2), .unset, .unset] [(.ref b1c1)])) _
  refine XS.astore X1.here hx rfl (hb hby at_131) rfl rfl (l' := #[.val (.long q1), .second, .val (.int p2), .val (.int p3), .val (.int p4), .val (.int p5), .val (.long ord), .second, .val (.ref act), .val (.int sc), .val scv, .val (.int 1), .val (.int x0), .val (.int x1), .val (.int x2), .val (.ref b1c1), .unset]) rfl ?_
  show Steps p.tables e below (T1.setTop (mkF m 133 #[.val (.long q1), .second, .val (.int p2), .val (.int p3), .val (.int p4), .val (.int p5), .val (.long ord), .second, .val (.ref act), .val (.int sc), .val scv, .val (.int 1), .val (.int x0), .val (.int x1), .val (.int x2), .val (.ref b1c1), .unset] [])) _
  exact kt
def Q19_o1_0_o2_0_2 (Z : State) (o1 : Addr) (o2 : Addr) (kk_o1 : ClassId) (x0 : Int32) (x1 : Int32) (kk_o2 : ClassId) (h0 : Heap) (n0 : Nat) (v : Option Value) (h : Heap) (L : List Loc) : Prop := v = some (.int 2) ∧ Fr n0 L ∧ Keep h0 h [o2] ∧ Arv Z h o2 kk_o2 .byte (2 : Int32) [(.int (nar .byte (x0.toInt8.toInt32))), (.int (nar .byte (x1.toInt8.toInt32)))] (.int (0 : Int32))
set_option maxRecDepth 65536 in
set_option maxHeartbeats 40000000 in
theorem rm19_o1_0_o2_0_2 (l : Launch) (Z : State) (a0 : Array Value) (hw : ∀ d ∈ tables_1, d.before a0 Z = true) (ws : List Jvm.Cond) (o1 : Addr) (o2 : Addr) (kk_o1 : ClassId) (x0 : Int32) (x1 : Int32) (kk_o2 : ClassId) (h0 : Heap) (n0 : Nat) (Z0 : n0 ≤ h0.size) (V_o1 : Arv Z h0 o1 kk_o1 .char (2 : Int32) [(.int x0), (.int x1)] (.int (0 : Int32))) (hhi_x0 : x0 < (256 : Int32)) (V_o2 : Arv Z h0 o2 kk_o2 .byte (2 : Int32) [(.int 0), (.int 0)] (.int (0 : Int32))) (g_o2 : n0 ≤ o2) (n_o1_o2 : ¬ (o1 = o2)) (hhi_x1 : x1 < (256 : Int32)) :
    MetFree l (⟨"java/lang/StringUTF16", "compress", "([CI[BII)I"⟩ : MethodName) (head1 (Jvm.Cond.code (⟨"java/lang/StringUTF16", "compress", "([CI[BII)I"⟩ : MethodName) jdk_52_method_21_code 7 (some .int) :: ws) ({ frames := 0, cells := 0, slots := 0, locals := 0 } : Room)) (fun a U => a = #[(.ref o1), (.int 0), (.ref o2), (.int 0), (.int 2)] ∧ Z.Warmed39 U.vm ∧ U.heap = h0) (fun _ _ _ _ _ => True) (fun _ U o U' => ∃ v L, o = .returned v ∧ Q19_o1_0_o2_0_2 Z o1 o2 kk_o1 x0 x1 kk_o2 h0 n0 v U'.heap L ∧ FrameEnd U o U' L ({ frames := 0, cells := 0, slots := 0, locals := 0 } : Room).cells ({ frames := 0, cells := 0, slots := 0, locals := 0 } : Room).slots) := by
  refine MetFree.of_bodySF (plainFor_of_name pn_19) hisR ?_
  intro p e s m args below meth c s₁ Bd hml0 hP hK
  obtain ⟨rfl, hZ, hh⟩ := hP
  have hx := Bd.exec
  have hby := Bd.bytes
  have hml : c.maxLocals = 7 := hml0
  have hown : s.vm.findClass "java/lang/StringUTF16" = some m.cls := findClass_of_methodNamed Bd.named
  have hnm := (name_of_methodNamed Bd.named Bd.method).1
  have X0 : Stand p l e ({ frames := 0, cells := 0, slots := 0, locals := 0 } : Room) s m #[(.ref o1), (.int 0), (.ref o2), (.int 0), (.int 2)] below meth c s₁ [] 0 0 := Stand.of_body Bd
  have e0 : s₁.heap = h0 := by rw [← hh, Bd.state]; rfl
  have N0 := Fr.nil n0
  have pre0 : ∀ t, Steps p.tables e below (s₁.setTop (mkF m 0 #[.val (.ref o1), .val (.int 0), .val (.ref o2), .val (.int 0), .val (.int 2), .unset, .unset] [])) t → Steps p.tables e below (s₁.setTop (entryFrame m #[(.ref o1), (.int 0), (.ref o2), (.int 0), (.int 2)] 7)) t := fun t k => castTop (by first | (simp [entryFrame, mkF, argsToLocals, Value.category]; done) | rfl) k
  obtain ⟨T1, h1, X1, e1, W1, Vw1, st1⟩ := own_stB X0 hx hZ e0 V_o2 0 rfl ⟨by decide, by decide⟩ (Nat.le_of_ble_eq_true rfl) (g := (mkF m 31 #[.val (.ref o1), .val (.int 0), .val (.ref o2), .val (.int 0), .val (.int 2), .val (.int 0), .val (.int x0)] [(.int (x0.toInt8.toInt32)), (.int 0), (.ref o2)])) rfl rfl (hb hby d19_31)
  have N1 := Fr.snoc X1 N0 g_o2
  have K1 : Keep h0 h1 [o2] := (Keep.refl h0 [o2]).wr W1 (Or.inl (List.mem_of_getElem? (i := 0) rfl))
  have V1_o2 : Arv Z h1 o2 kk_o2 .byte (2 : Int32) [(.int (nar .byte (x0.toInt8.toInt32))), (.int 0)] (.int (0 : Int32)) := Vw1
  obtain ⟨T2, h2, X2, e2, W2, Vw2, st2⟩ := own_stB X1 hx hZ e1 V1_o2 1 rfl ⟨by decide, by decide⟩ (Nat.le_of_ble_eq_true rfl) (g := (mkF m 31 #[.val (.ref o1), .val (.int 1), .val (.ref o2), .val (.int 1), .val (.int 2), .val (.int 1), .val (.int x1)] [(.int (x1.toInt8.toInt32)), (.int 1), (.ref o2)])) rfl rfl (hb hby d19_31)
  have N2 := Fr.snoc X2 N1 g_o2
  have K2 : Keep h0 h2 [o2] := K1.wr W2 (Or.inl (List.mem_of_getElem? (i := 0) rfl))
  have V2_o2 : Arv Z h2 o2 kk_o2 .byte (2 : Int32) [(.int (nar .byte (x0.toInt8.toInt32))), (.int (nar .byte (x1.toInt8.toInt32)))] (.int (0 : Int32)) := Vw2
  obtain ⟨fs, hr, hrun, hended, hW, hsame⟩ := X2.leave (v := some (.int 2)) (fun h => by rw [Bd.returns] at h; cases h)
  refine ⟨_, _, pre0 _ ?_, hrun, hended, _, _, rfl, ?_, ⟨_, rfl⟩, hW, hsame.mono (by decide) (by decide)⟩
  · show Steps p.tables e below (s₁.setTop (mkF m 0 #[.val (.ref o1), .val (.int 0), .val (.ref o2), .val (.int 0), .val (.int 2), .unset, .unset] [])) _
    refine XS.iconst X0.here hx rfl (hb hby d19_0) ?_
    show Steps p.tables e below (s₁.setTop (mkF m 1 #[.val (.ref o1), .val (.int 0), .val (.ref o2), .val (.int 0), .val (.int 2), .unset, .unset] [(.int 0)])) _
    refine XS.istore X0.here hx rfl (hb hby d19_1) rfl (l' := #[.val (.ref o1), .val (.int 0), .val (.ref o2), .val (.int 0), .val (.int 2), .val (.int 0), .unset]) rfl ?_
    show Steps p.tables e below (s₁.setTop (mkF m 3 #[.val (.ref o1), .val (.int 0), .val (.ref o2), .val (.int 0), .val (.int 2), .val (.int 0), .unset] [])) _
    refine XS.iload X0.here hx rfl (hb hby d19_3) rfl ?_
    show Steps p.tables e below (s₁.setTop (mkF m 5 #[.val (.ref o1), .val (.int 0), .val (.ref o2), .val (.int 0), .val (.int 2), .val (.int 0), .unset] [(.int 0)])) _
    refine XS.iload X0.here hx rfl (hb hby d19_5) rfl ?_
    show Steps p.tables e below (s₁.setTop (mkF m 7 #[.val (.ref o1), .val (.int 0), .val (.ref o2), .val (.int 0), .val (.int 2), .val (.int 0), .unset] [(.int 2), (.int 0)])) _
    refine XS.icmpNo X0.here hx rfl (hb hby d19_7) rfl (tlt (by decide : (0 : Int32) < (2 : Int32))).2.1 ?_
    show Steps p.tables e below (s₁.setTop (mkF m 10 #[.val (.ref o1), .val (.int 0), .val (.ref o2), .val (.int 0), .val (.int 2), .val (.int 0), .unset] [])) _
    refine XS.aloadN X0.here hx rfl (hb hby d19_10) rfl rfl ?_
    show Steps p.tables e below (s₁.setTop (mkF m 11 #[.val (.ref o1), .val (.int 0), .val (.ref o2), .val (.int 0), .val (.int 2), .val (.int 0), .unset] [(.ref o1)])) _
    refine XS.iloadN X0.here hx rfl (hb hby d19_11) rfl ?_
    show Steps p.tables e below (s₁.setTop (mkF m 12 #[.val (.ref o1), .val (.int 0), .val (.ref o2), .val (.int 0), .val (.int 2), .val (.int 0), .unset] [(.int 0), (.ref o1)])) _
    refine own_ldC X0 hx hZ e0 V_o1 (j := (0 : Int32)) ⟨by decide, by decide⟩ rfl (g := (mkF m 12 #[.val (.ref o1), .val (.int 0), .val (.ref o2), .val (.int 0), .val (.int 2), .val (.int 0), .unset] [(.int 0), (.ref o1)])) rfl rfl (hb hby d19_12) _ ?_
    show Steps p.tables e below (s₁.setTop (mkF m 13 #[.val (.ref o1), .val (.int 0), .val (.ref o2), .val (.int 0), .val (.int 2), .val (.int 0), .unset] [(.int x0)])) _
    refine XS.istore X0.here hx rfl (hb hby d19_13) rfl (l' := #[.val (.ref o1), .val (.int 0), .val (.ref o2), .val (.int 0), .val (.int 2), .val (.int 0), .val (.int x0)]) rfl ?_
    show Steps p.tables e below (s₁.setTop (mkF m 15 #[.val (.ref o1), .val (.int 0), .val (.ref o2), .val (.int 0), .val (.int 2), .val (.int 0), .val (.int x0)] [])) _
    refine XS.iload X0.here hx rfl (hb hby d19_15) rfl ?_
    show Steps p.tables e below (s₁.setTop (mkF m 17 #[.val (.ref o1), .val (.int 0), .val (.ref o2), .val (.int 0), .val (.int 2), .val (.int 0), .val (.int x0)] [(.int x0)])) _
    refine XS.sipush X0.here hx rfl (hb hby d19_17) ?_
    show Steps p.tables e below (s₁.setTop (mkF m 20 #[.val (.ref o1), .val (.int 0), .val (.ref o2), .val (.int 0), .val (.int 2), .val (.int 0), .val (.int x0)] [(.int 255), (.int x0)])) _
    refine XS.icmpYes X0.here hx rfl (pc0 := 20) (pc' := 26) rfl (hb hby d19_20) rfl (flt (own_ngt hhi_x0 (by decide) : ¬ ((255 : Int32) < x0))).2.2.2 (by decide) (by decide) ?_
    show Steps p.tables e below (s₁.setTop (mkF m 26 #[.val (.ref o1), .val (.int 0), .val (.ref o2), .val (.int 0), .val (.int 2), .val (.int 0), .val (.int x0)] [])) _
    refine XS.aloadN X0.here hx rfl (hb hby d19_26) rfl rfl ?_
    show Steps p.tables e below (s₁.setTop (mkF m 27 #[.val (.ref o1), .val (.int 0), .val (.ref o2), .val (.int 0), .val (.int 2), .val (.int 0), .val (.int x0)] [(.ref o2)])) _
    refine XS.iloadN X0.here hx rfl (hb hby d19_27) rfl ?_
    show Steps p.tables e below (s₁.setTop (mkF m 28 #[.val (.ref o1), .val (.int 0), .val (.ref o2), .val (.int 0), .val (.int 2), .val (.int 0), .val (.int x0)] [(.int 0), (.ref o2)])) _
    refine XS.iload X0.here hx rfl (hb hby d19_28) rfl ?_
    show Steps p.tables e below (s₁.setTop (mkF m 30 #[.val (.ref o1), .val (.int 0), .val (.ref o2), .val (.int 0), .val (.int 2), .val (.int 0), .val (.int x0)] [(.int x0), (.int 0), (.ref o2)])) _
    refine XS.i2b X0.here hx rfl (hb hby d19_30) rfl ?_
    show Steps p.tables e below (s₁.setTop (mkF m 31 #[.val (.ref o1), .val (.int 0), .val (.ref o2), .val (.int 0), .val (.int 2), .val (.int 0), .val (.int x0)] [(.int (x0.toInt8.toInt32)), (.int 0), (.ref o2)])) _
    refine st1 _ ?_
    show Steps p.tables e below (T1.setTop (mkF m 32 #[.val (.ref o1), .val (.int 0), .val (.ref o2), .val (.int 0), .val (.int 2), .val (.int 0), .val (.int x0)] [])) _
    refine XS.iinc X1.here hx rfl (hb hby d19_32) rfl (l' := #[.val (.ref o1), .val (.int ((0 : Int32) + (1 : Int32))), .val (.ref o2), .val (.int 0), .val (.int 2), .val (.int 0), .val (.int x0)]) rfl ?_
    show Steps p.tables e below (T1.setTop (mkF m 35 #[.val (.ref o1), .val (.int ((0 : Int32) + (1 : Int32))), .val (.ref o2), .val (.int 0), .val (.int 2), .val (.int 0), .val (.int x0)] [])) _
    rw [(by decide : ((0 : Int32) + (1 : Int32)) = (1 : Int32))]
    show Steps p.tables e below (T1.setTop (mkF m 35 #[.val (.ref o1), .val (.int 1), .val (.ref o2), .val (.int 0), .val (.int 2), .val (.int 0), .val (.int x0)] [])) _
    refine XS.iinc X1.here hx rfl (hb hby d19_35) rfl (l' := #[.val (.ref o1), .val (.int 1), .val (.ref o2), .val (.int ((0 : Int32) + (1 : Int32))), .val (.int 2), .val (.int 0), .val (.int x0)]) rfl ?_
    show Steps p.tables e below (T1.setTop (mkF m 38 #[.val (.ref o1), .val (.int 1), .val (.ref o2), .val (.int ((0 : Int32) + (1 : Int32))), .val (.int 2), .val (.int 0), .val (.int x0)] [])) _
    rw [(by decide : ((0 : Int32) + (1 : Int32)) = (1 : Int32))]
    show Steps p.tables e below (T1.setTop (mkF m 38 #[.val (.ref o1), .val (.int 1), .val (.ref o2), .val (.int 1), .val (.int 2), .val (.int 0), .val (.int x0)] [])) _
    refine XS.iinc X1.here hx rfl (hb hby d19_38) rfl (l' := #[.val (.ref o1), .val (.int 1), .val (.ref o2), .val (.int 1), .val (.int 2), .val (.int ((0 : Int32) + (1 : Int32))), .val (.int x0)]) rfl ?_
    show Steps p.tables e below (T1.setTop (mkF m 41 #[.val (.ref o1), .val (.int 1), .val (.ref o2), .val (.int 1), .val (.int 2), .val (.int ((0 : Int32) + (1 : Int32))), .val (.int x0)] [])) _
    rw [(by decide : ((0 : Int32) + (1 : Int32)) = (1 : Int32))]
    show Steps p.tables e below (T1.setTop (mkF m 41 #[.val (.ref o1), .val (.int 1), .val (.ref o2), .val (.int 1), .val (.int 2), .val (.int 1), .val (.int x0)] [])) _
    refine XS.goto X1.here hx rfl (pc0 := 41) (pc' := 3) rfl (hb hby d19_41) (by decide) (by decide) ?_
    show Steps p.tables e below (T1.setTop (mkF m 3 #[.val (.ref o1), .val (.int 1), .val (.ref o2), .val (.int 1), .val (.int 2), .val (.int 1), .val (.int x0)] [])) _
    refine XS.iload X1.here hx rfl (hb hby d19_3) rfl ?_
    show Steps p.tables e below (T1.setTop (mkF m 5 #[.val (.ref o1), .val (.int 1), .val (.ref o2), .val (.int 1), .val (.int 2), .val (.int 1), .val (.int x0)] [(.int 1)])) _
    refine XS.iload X1.here hx rfl (hb hby d19_5) rfl ?_
    show Steps p.tables e below (T1.setTop (mkF m 7 #[.val (.ref o1), .val (.int 1), .val (.ref o2), .val (.int 1), .val (.int 2), .val (.int 1), .val (.int x0)] [(.int 2), (.int 1)])) _
    refine XS.icmpNo X1.here hx rfl (hb hby d19_7) rfl (tlt (by decide : (1 : Int32) < (2 : Int32))).2.1 ?_
    show Steps p.tables e below (T1.setTop (mkF m 10 #[.val (.ref o1), .val (.int 1), .val (.ref o2), .val (.int 1), .val (.int 2), .val (.int 1), .val (.int x0)] [])) _
    refine XS.aloadN X1.here hx rfl (hb hby d19_10) rfl rfl ?_
    show Steps p.tables e below (T1.setTop (mkF m 11 #[.val (.ref o1), .val (.int 1), .val (.ref o2), .val (.int 1), .val (.int 2), .val (.int 1), .val (.int x0)] [(.ref o1)])) _
    refine XS.iloadN X1.here hx rfl (hb hby d19_11) rfl ?_
    show Steps p.tables e below (T1.setTop (mkF m 12 #[.val (.ref o1), .val (.int 1), .val (.ref o2), .val (.int 1), .val (.int 2), .val (.int 1), .val (.int x0)] [(.int 1), (.ref o1)])) _
    refine own_ldC X1 hx hZ e1 (V_o1.other W1 n_o1_o2) (j := (1 : Int32)) ⟨by decide, by decide⟩ rfl (g := (mkF m 12 #[.val (.ref o1), .val (.int 1), .val (.ref o2), .val (.int 1), .val (.int 2), .val (.int 1), .val (.int x0)] [(.int 1), (.ref o1)])) rfl rfl (hb hby d19_12) _ ?_
    show Steps p.tables e below (T1.setTop (mkF m 13 #[.val (.ref o1), .val (.int 1), .val (.ref o2), .val (.int 1), .val (.int 2), .val (.int 1), .val (.int x0)] [(.int x1)])) _
    refine XS.istore X1.here hx rfl (hb hby d19_13) rfl (l' := #[.val (.ref o1), .val (.int 1), .val (.ref o2), .val (.int 1), .val (.int 2), .val (.int 1), .val (.int x1)]) rfl ?_
    show Steps p.tables e below (T1.setTop (mkF m 15 #[.val (.ref o1), .val (.int 1), .val (.ref o2), .val (.int 1), .val (.int 2), .val (.int 1), .val (.int x1)] [])) _
    refine XS.iload X1.here hx rfl (hb hby d19_15) rfl ?_
    show Steps p.tables e below (T1.setTop (mkF m 17 #[.val (.ref o1), .val (.int 1), .val (.ref o2), .val (.int 1), .val (.int 2), .val (.int 1), .val (.int x1)] [(.int x1)])) _
    refine XS.sipush X1.here hx rfl (hb hby d19_17) ?_
    show Steps p.tables e below (T1.setTop (mkF m 20 #[.val (.ref o1), .val (.int 1), .val (.ref o2), .val (.int 1), .val (.int 2), .val (.int 1), .val (.int x1)] [(.int 255), (.int x1)])) _
    refine XS.icmpYes X1.here hx rfl (pc0 := 20) (pc' := 26) rfl (hb hby d19_20) rfl (flt (own_ngt hhi_x1 (by decide) : ¬ ((255 : Int32) < x1))).2.2.2 (by decide) (by decide) ?_
    show Steps p.tables e below (T1.setTop (mkF m 26 #[.val (.ref o1), .val (.int 1), .val (.ref o2), .val (.int 1), .val (.int 2), .val (.int 1), .val (.int x1)] [])) _
    refine XS.aloadN X1.here hx rfl (hb hby d19_26) rfl rfl ?_
    show Steps p.tables e below (T1.setTop (mkF m 27 #[.val (.ref o1), .val (.int 1), .val (.ref o2), .val (.int 1), .val (.int 2), .val (.int 1), .val (.int x1)] [(.ref o2)])) _
    refine XS.iloadN X1.here hx rfl (hb hby d19_27) rfl ?_
    show Steps p.tables e below (T1.setTop (mkF m 28 #[.val (.ref o1), .val (.int 1), .val (.ref o2), .val (.int 1), .val (.int 2), .val (.int 1), .val (.int x1)] [(.int 1), (.ref o2)])) _
    refine XS.iload X1.here hx rfl (hb hby d19_28) rfl ?_
    show Steps p.tables e below (T1.setTop (mkF m 30 #[.val (.ref o1), .val (.int 1), .val (.ref o2), .val (.int 1), .val (.int 2), .val (.int 1), .val (.int x1)] [(.int x1), (.int 1), (.ref o2)])) _
    refine XS.i2b X1.here hx rfl (hb hby d19_30) rfl ?_
    show Steps p.tables e below (T1.setTop (mkF m 31 #[.val (.ref o1), .val (.int 1), .val (.ref o2), .val (.int 1), .val (.int 2), .val (.int 1), .val (.int x1)] [(.int (x1.toInt8.toInt32)), (.int 1), (.ref o2)])) _
    refine st2 _ ?_
    show Steps p.tables e below (T2.setTop (mkF m 32 #[.val (.ref o1), .val (.int 1), .val (.ref o2), .val (.int 1), .val (.int 2), .val (.int 1), .val (.int x1)] [])) _
    refine XS.iinc X2.here hx rfl (hb hby d19_32) rfl (l' := #[.val (.ref o1), .val (.int ((1 : Int32) + (1 : Int32))), .val (.ref o2), .val (.int 1), .val (.int 2), .val (.int 1), .val (.int x1)]) rfl ?_
    show Steps p.tables e below (T2.setTop (mkF m 35 #[.val (.ref o1), .val (.int ((1 : Int32) + (1 : Int32))), .val (.ref o2), .val (.int 1), .val (.int 2), .val (.int 1), .val (.int x1)] [])) _
    rw [(by decide : ((1 : Int32) + (1 : Int32)) = (2 : Int32))]
    show Steps p.tables e below (T2.setTop (mkF m 35 #[.val (.ref o1), .val (.int 2), .val (.ref o2), .val (.int 1), .val (.int 2), .val (.int 1), .val (.int x1)] [])) _
    refine XS.iinc X2.here hx rfl (hb hby d19_35) rfl (l' := #[.val (.ref o1), .val (.int 2), .val (.ref o2), .val (.int ((1 : Int32) + (1 : Int32))), .val (.int 2), .val (.int 1), .val (.int x1)]) rfl ?_
    show Steps p.tables e below (T2.setTop (mkF m 38 #[.val (.ref o1), .val (.int 2), .val (.ref o2), .val (.int ((1 : Int32) + (1 : Int32))), .val (.int 2), .val (.int 1), .val (.int x1)] [])) _
    rw [(by decide : ((1 : Int32) + (1 : Int32)) = (2 : Int32))]
    show Steps p.tables e below (T2.setTop (mkF m 38 #[.val (.ref o1), .val (.int 2), .val (.ref o2), .val (.int 2), .val (.int 2), .val (.int 1), .val (.int x1)] [])) _
    refine XS.iinc X2.here hx rfl (hb hby d19_38) rfl (l' := #[.val (.ref o1), .val (.int 2), .val (.ref o2), .val (.int 2), .val (.int 2), .val (.int ((1 : Int32) + (1 : Int32))), .val (.int x1)]) rfl ?_
    show Steps p.tables e below (T2.setTop (mkF m 41 #[.val (.ref o1), .val (.int 2), .val (.ref o2), .val (.int 2), .val (.int 2), .val (.int ((1 : Int32) + (1 : Int32))), .val (.int x1)] [])) _
    rw [(by decide : ((1 : Int32) + (1 : Int32)) = (2 : Int32))]
    show Steps p.tables e below (T2.setTop (mkF m 41 #[.val (.ref o1), .val (.int 2), .val (.ref o2), .val (.int 2), .val (.int 2), .val (.int 2), .val (.int x1)] [])) _
    refine XS.goto X2.here hx rfl (pc0 := 41) (pc' := 3) rfl (hb hby d19_41) (by decide) (by decide) ?_
    show Steps p.tables e below (T2.setTop (mkF m 3 #[.val (.ref o1), .val (.int 2), .val (.ref o2), .val (.int 2), .val (.int 2), .val (.int 2), .val (.int x1)] [])) _
    refine XS.iload X2.here hx rfl (hb hby d19_3) rfl ?_
    show Steps p.tables e below (T2.setTop (mkF m 5 #[.val (.ref o1), .val (.int 2), .val (.ref o2), .val (.int 2), .val (.int 2), .val (.int 2), .val (.int x1)] [(.int 2)])) _
    refine XS.iload X2.here hx rfl (hb hby d19_5) rfl ?_
    show Steps p.tables e below (T2.setTop (mkF m 7 #[.val (.ref o1), .val (.int 2), .val (.ref o2), .val (.int 2), .val (.int 2), .val (.int 2), .val (.int x1)] [(.int 2), (.int 2)])) _
    refine XS.icmpYes X2.here hx rfl (pc0 := 7) (pc' := 44) rfl (hb hby d19_7) rfl (flt (by decide : ¬ ((2 : Int32) < (2 : Int32)))).2.1 (by decide) (by decide) ?_
    show Steps p.tables e below (T2.setTop (mkF m 44 #[.val (.ref o1), .val (.int 2), .val (.ref o2), .val (.int 2), .val (.int 2), .val (.int 2), .val (.int x1)] [])) _
    refine XS.iload X2.here hx rfl (hb hby d19_44) rfl ?_
    show Steps p.tables e below (T2.setTop (mkF m 46 #[.val (.ref o1), .val (.int 2), .val (.ref o2), .val (.int 2), .val (.int 2), .val (.int 2), .val (.int x1)] [(.int 2)])) _
    exact retI X2 hx Bd.returns (hb hby d19_46) hr
  · show Q19_o1_0_o2_0_2 Z o1 o2 kk_o1 x0 x1 kk_o2 h0 n0 _ T2.heap _
    rw [e2]
    exact ⟨rfl, N2, K2, V2_o2⟩
def Q18_o1_0_2 (Z : State) (o1 : Addr) (kk_o1 : ClassId) (x0 : Int32) (x1 : Int32) (h0 : Heap) (n0 : Nat) (v : Option Value) (h : Heap) (L : List Loc) : Prop := ∃ (c1 : Addr), ∃ (kd2 : ClassId), v = some (.ref c1) ∧ Fr n0 L ∧ Keep h0 h [] ∧ h0.size ≤ c1 ∧ Arv Z h c1 kd2 .byte (2 : Int32) [(.int (nar .byte (x0.toInt8.toInt32))), (.int (nar .byte (x1.toInt8.toInt32)))] (.int (0 : Int32))
set_option maxRecDepth 65536 in
set_option maxHeartbeats 40000000 in
theorem rm18_o1_0_2 (l : Launch) (Z : State) (a0 : Array Value) (hw : ∀ d ∈ tables_1, d.before a0 Z = true) (ws : List Jvm.Cond) (o1 : Addr) (kk_o1 : ClassId) (x0 : Int32) (x1 : Int32) (h0 : Heap) (n0 : Nat) (Z0 : n0 ≤ h0.size) (V_o1 : Arv Z h0 o1 kk_o1 .char (2 : Int32) [(.int x0), (.int x1)] (.int (0 : Int32))) (hhi_x0 : x0 < (256 : Int32)) (hhi_x1 : x1 < (256 : Int32)) :
    MetFree l (⟨"java/lang/StringUTF16", "compress", "([CII)[B"⟩ : MethodName) (head1 (Jvm.Cond.code (⟨"java/lang/StringUTF16", "compress", "([CII)[B"⟩ : MethodName) jdk_52_method_16_code 6 (some (.array .byte)) :: ws) ({ frames := 1, cells := 1, slots := 2, locals := 18 } : Room)) (fun a U => a = #[(.ref o1), (.int 0), (.int 2)] ∧ Z.Warmed39 U.vm ∧ U.heap = h0) (fun _ _ _ _ _ => True) (fun _ U o U' => ∃ v L, o = .returned v ∧ Q18_o1_0_2 Z o1 kk_o1 x0 x1 h0 n0 v U'.heap L ∧ FrameEnd U o U' L ({ frames := 1, cells := 1, slots := 2, locals := 18 } : Room).cells ({ frames := 1, cells := 1, slots := 2, locals := 18 } : Room).slots) := by
  refine MetFree.of_bodySF (plainFor_of_name pn_18) hisR ?_
  intro p e s m args below meth c s₁ Bd hml0 hP hK
  obtain ⟨rfl, hZ, hh⟩ := hP
  have hx := Bd.exec
  have hby := Bd.bytes
  have hml : c.maxLocals = 6 := hml0
  have hown : s.vm.findClass "java/lang/StringUTF16" = some m.cls := findClass_of_methodNamed Bd.named
  have hnm := (name_of_methodNamed Bd.named Bd.method).1
  have X0 : Stand p l e ({ frames := 1, cells := 1, slots := 2, locals := 18 } : Room) s m #[(.ref o1), (.int 0), (.int 2)] below meth c s₁ [] 0 0 := Stand.of_body Bd
  have e0 : s₁.heap = h0 := by rw [← hh, Bd.state]; rfl
  have N0 := Fr.nil n0
  have pre0 : ∀ t, Steps p.tables e below (s₁.setTop (mkF m 0 #[.val (.ref o1), .val (.int 0), .val (.int 2), .unset, .unset, .unset] [])) t → Steps p.tables e below (s₁.setTop (entryFrame m #[(.ref o1), (.int 0), (.int 2)] 6)) t := fun t k => castTop (by first | (simp [entryFrame, mkF, argsToLocals, Value.category]; done) | rfl) k
  obtain ⟨T1, h1, k1, X1, e1, E1, A1, st1⟩ := newP X0 hx hZ (hw _ (List.mem_of_getElem? (i := 26) rfl)) e0 (g := (mkF m 1 #[.val (.ref o1), .val (.int 0), .val (.int 2), .unset, .unset, .unset] [(.int 2)])) rfl (hb hby d18_1) rfl (by decide) (cap := 2) (by decide) (by decide) (by decide) (by decide)
  obtain ⟨b1, g1⟩ : ∃ z, z = h0.size := ⟨_, rfl⟩
  have s_b1 : h0.size ≤ b1 := Nat.le_of_eq g1.symm
  have g_b1 : n0 ≤ b1 := Nat.le_trans Z0 s_b1
  have sz_b1 : h0.size ≤ b1 := s_b1
  rw [← g1] at A1 st1
  have K1 : Keep h0 h1 [] := (Keep.refl h0 []).ext E1
  have V_b1 : Arv Z h1 b1 k1 .byte (2 : Int32) [(.int 0), (.int 0)] (.int (0 : Int32)) := (Arv.new A1 (by decide)).pad (pad_rep [] (.int (0 : Int32)) 2)
  obtain ⟨_, _, ⟨T2, L2, k2, n2⟩, -, X2, ⟨Lc2, hQ2, l2, y2, z2⟩, st2⟩ := Jvm.LawKit.callS X1 hx (y := (⟨"java/lang/StringUTF16", "compress", "([CI[BII)I"⟩ : MethodName)) hown (mvT hZ (hw _ (List.mem_of_getElem? (i := 128) rfl))) (mvT hZ (hw _ (List.mem_of_getElem? (i := 129) rfl))) (mvT hZ (hw _ (List.mem_of_getElem? (i := 126) rfl))) (mvT hZ (hw _ (List.mem_of_getElem? (i := 130) rfl))) (by decide) (backOf (W := 0) (rm19_o1_0_o2_0_2 l Z a0 hw [] o1 b1 kk_o1 x0 x1 k1 h1 n0 (Nat.le_trans Z0 K1.1) (V_o1.keep K1 nin0) hhi_x0 V_b1 g_b1 (Nat.ne_of_lt (Nat.lt_of_lt_of_le (V_o1).lt sz_b1)) hhi_x1) hZ (hw _ (List.mem_of_getElem? (i := 130) rfl)) (hw _ (List.mem_of_getElem? (i := 126) rfl)) (by decide) (by decide)) (g := (mkF m 9 #[.val (.ref o1), .val (.int 0), .val (.int 2), .val (.ref b1), .unset, .unset] [(.int 2), (.int 0), (.ref b1), (.int 0), (.ref o1)])) rfl (by rw [hml]; rfl) (argsL := [(.ref o1), (.int 0), (.ref b1), (.int 0), (.int 2)]) (rest := []) (lenOf pd___CI_BII_I rfl) rfl (by show 2 * 0 + _ ≤ _; exact Nat.le_of_eq rfl) (hb hby d18_9) (fun _ _ => ⟨rfl, e1, (by decide : 1 + 0 ≤ _), (by decide : 2 + 0 ≤ _)⟩)
  dsimp only [Pt.U, Pt.locs, Pt.cells, Pt.slots] at X2 l2 y2 z2 st2 hQ2
  subst l2 y2 z2
  obtain ⟨rfl, N2q, Kq2, fq2_0⟩ := hQ2
  have N2 := Fr.app N0 N2q
  have K2 : Keep h0 T2.heap [] := K1.trans Kq2 (allS (Or.inr sz_b1) all0)
  obtain ⟨fs, hr, hrun, hended, hW, hsame⟩ := X2.leave (v := some (.ref b1)) (fun h => by rw [Bd.returns] at h; cases h)
  refine ⟨_, _, pre0 _ ?_, hrun, hended, _, _, rfl, ?_, ⟨_, rfl⟩, hW, hsame.mono (by decide) (by decide)⟩
  · show Steps p.tables e below (s₁.setTop (mkF m 0 #[.val (.ref o1), .val (.int 0), .val (.int 2), .unset, .unset, .unset] [])) _
    refine XS.iloadN X0.here hx rfl (hb hby d18_0) rfl ?_
    show Steps p.tables e below (s₁.setTop (mkF m 1 #[.val (.ref o1), .val (.int 0), .val (.int 2), .unset, .unset, .unset] [(.int 2)])) _
    refine st1 _ ?_
    show Steps p.tables e below (T1.setTop (mkF m 3 #[.val (.ref o1), .val (.int 0), .val (.int 2), .unset, .unset, .unset] [(.ref b1)])) _
    refine XS.astoreN X1.here hx rfl (hb hby d18_3) rfl rfl (l' := #[.val (.ref o1), .val (.int 0), .val (.int 2), .val (.ref b1), .unset, .unset]) rfl ?_
    show Steps p.tables e below (T1.setTop (mkF m 4 #[.val (.ref o1), .val (.int 0), .val (.int 2), .val (.ref b1), .unset, .unset] [])) _
    refine XS.aloadN X1.here hx rfl (hb hby d18_4) rfl rfl ?_
    show Steps p.tables e below (T1.setTop (mkF m 5 #[.val (.ref o1), .val (.int 0), .val (.int 2), .val (.ref b1), .unset, .unset] [(.ref o1)])) _
    refine XS.iloadN X1.here hx rfl (hb hby d18_5) rfl ?_
    show Steps p.tables e below (T1.setTop (mkF m 6 #[.val (.ref o1), .val (.int 0), .val (.int 2), .val (.ref b1), .unset, .unset] [(.int 0), (.ref o1)])) _
    refine XS.aloadN X1.here hx rfl (hb hby d18_6) rfl rfl ?_
    show Steps p.tables e below (T1.setTop (mkF m 7 #[.val (.ref o1), .val (.int 0), .val (.int 2), .val (.ref b1), .unset, .unset] [(.ref b1), (.int 0), (.ref o1)])) _
    refine XS.iconst X1.here hx rfl (hb hby d18_7) ?_
    show Steps p.tables e below (T1.setTop (mkF m 8 #[.val (.ref o1), .val (.int 0), .val (.int 2), .val (.ref b1), .unset, .unset] [(.int 0), (.ref b1), (.int 0), (.ref o1)])) _
    refine XS.iloadN X1.here hx rfl (hb hby d18_8) rfl ?_
    show Steps p.tables e below (T1.setTop (mkF m 9 #[.val (.ref o1), .val (.int 0), .val (.int 2), .val (.ref b1), .unset, .unset] [(.int 2), (.int 0), (.ref b1), (.int 0), (.ref o1)])) _
    refine st2 _ ?_
    show Steps p.tables e below (T2.setTop (mkF m 12 #[.val (.ref o1), .val (.int 0), .val (.int 2), .val (.ref b1), .unset, .unset] [(.int 2)])) _
    refine XS.istore X2.here hx rfl (hb hby d18_12) rfl (l' := #[.val (.ref o1), .val (.int 0), .val (.int 2), .val (.ref b1), .val (.int 2), .unset]) rfl ?_
    show Steps p.tables e below (T2.setTop (mkF m 14 #[.val (.ref o1), .val (.int 0), .val (.int 2), .val (.ref b1), .val (.int 2), .unset] [])) _
    refine XS.iload X2.here hx rfl (hb hby d18_14) rfl ?_
    show Steps p.tables e below (T2.setTop (mkF m 16 #[.val (.ref o1), .val (.int 0), .val (.int 2), .val (.ref b1), .val (.int 2), .unset] [(.int 2)])) _
    refine XS.iloadN X2.here hx rfl (hb hby d18_16) rfl ?_
    show Steps p.tables e below (T2.setTop (mkF m 17 #[.val (.ref o1), .val (.int 0), .val (.int 2), .val (.ref b1), .val (.int 2), .unset] [(.int 2), (.int 2)])) _
    refine XS.icmpYes X2.here hx rfl (pc0 := 17) (pc' := 57) rfl (hb hby d18_17) rfl (teq (by decide : (2 : Int32) = (2 : Int32))).1 (by decide) (by decide) ?_
    show Steps p.tables e below (T2.setTop (mkF m 57 #[.val (.ref o1), .val (.int 0), .val (.int 2), .val (.ref b1), .val (.int 2), .unset] [])) _
    refine XS.aloadN X2.here hx rfl (hb hby d18_57) rfl rfl ?_
    show Steps p.tables e below (T2.setTop (mkF m 58 #[.val (.ref o1), .val (.int 0), .val (.int 2), .val (.ref b1), .val (.int 2), .unset] [(.ref b1)])) _
    jvm_step X2.here [X2.here.top, hx, (hb hby d18_58), X2.method', Bd.returns, Value.isRef, FieldType.isReference]
    first | (intro acts; rw [hr _ acts rfl rfl rfl]) | rw [hr _ _ rfl rfl rfl]
    exact Steps.refl _
  · show Q18_o1_0_2 Z o1 kk_o1 x0 x1 h0 n0 _ T2.heap _
    exact ⟨b1, k1, rfl, N2, K2, sz_b1, fq2_0⟩
def Q20_o1_2 (Z : State) (o1 : Addr) (kk_o1 : ClassId) (x0 : Int32) (x1 : Int32) (h0 : Heap) (n0 : Nat) (v : Option Value) (h : Heap) (L : List Loc) : Prop := v = some (.int 0) ∧ Fr n0 L ∧ h = h0
set_option maxRecDepth 65536 in
set_option maxHeartbeats 40000000 in
theorem rm20_o1_2 (l : Launch) (Z : State) (a0 : Array Value) (hw : ∀ d ∈ tables_1, d.before a0 Z = true) (ws : List Jvm.Cond) (o1 : Addr) (kk_o1 : ClassId) (x0 : Int32) (x1 : Int32) (h0 : Heap) (n0 : Nat) (Z0 : n0 ≤ h0.size) (V_o1 : Arv Z h0 o1 kk_o1 .byte (2 : Int32) [(.int (nar .byte (x0.toInt8.toInt32))), (.int (nar .byte (x1.toInt8.toInt32)))] (.int (0 : Int32))) :
    MetFree l (⟨"java/lang/StringUTF16", "coderFromArrayLen", "([BI)B"⟩ : MethodName) (head1 (Jvm.Cond.code (⟨"java/lang/StringUTF16", "coderFromArrayLen", "([BI)B"⟩ : MethodName) jdk_52_method_15_code 2 (some .byte) :: ws) ({ frames := 0, cells := 0, slots := 0, locals := 0 } : Room)) (fun a U => a = #[(.ref o1), (.int 2)] ∧ Z.Warmed39 U.vm ∧ U.heap = h0) (fun _ _ _ _ _ => True) (fun _ U o U' => ∃ v L, o = .returned v ∧ Q20_o1_2 Z o1 kk_o1 x0 x1 h0 n0 v U'.heap L ∧ FrameEnd U o U' L ({ frames := 0, cells := 0, slots := 0, locals := 0 } : Room).cells ({ frames := 0, cells := 0, slots := 0, locals := 0 } : Room).slots) := by
  refine MetFree.of_bodySF (plainFor_of_name pn_20) hisR ?_
  intro p e s m args below meth c s₁ Bd hml0 hP hK
  obtain ⟨rfl, hZ, hh⟩ := hP
  have hx := Bd.exec
  have hby := Bd.bytes
  have hml : c.maxLocals = 2 := hml0
  have hown : s.vm.findClass "java/lang/StringUTF16" = some m.cls := findClass_of_methodNamed Bd.named
  have hnm := (name_of_methodNamed Bd.named Bd.method).1
  have X0 : Stand p l e ({ frames := 0, cells := 0, slots := 0, locals := 0 } : Room) s m #[(.ref o1), (.int 2)] below meth c s₁ [] 0 0 := Stand.of_body Bd
  have e0 : s₁.heap = h0 := by rw [← hh, Bd.state]; rfl
  have N0 := Fr.nil n0
  have pre0 : ∀ t, Steps p.tables e below (s₁.setTop (mkF m 0 #[.val (.ref o1), .val (.int 2)] [])) t → Steps p.tables e below (s₁.setTop (entryFrame m #[(.ref o1), (.int 2)] 2)) t := fun t k => castTop (by first | (simp [entryFrame, mkF, argsToLocals, Value.category]; done) | rfl) k
  obtain ⟨fs, hr, hrun, hended, hW, hsame⟩ := X0.leave (v := some (.int 0)) (fun h => by rw [Bd.returns] at h; cases h)
  refine ⟨_, _, pre0 _ ?_, hrun, hended, _, _, rfl, ?_, ⟨_, rfl⟩, hW, hsame.mono (by decide) (by decide)⟩
  · show Steps p.tables e below (s₁.setTop (mkF m 0 #[.val (.ref o1), .val (.int 2)] [])) _
    refine XS.iloadN X0.here hx rfl (hb hby d20_0) rfl ?_
    show Steps p.tables e below (s₁.setTop (mkF m 1 #[.val (.ref o1), .val (.int 2)] [(.int 2)])) _
    refine XS.aloadN X0.here hx rfl (hb hby d20_1) rfl rfl ?_
    show Steps p.tables e below (s₁.setTop (mkF m 2 #[.val (.ref o1), .val (.int 2)] [(.ref o1), (.int 2)])) _
    refine own_len X0 hx hZ e0 V_o1 (g := (mkF m 2 #[.val (.ref o1), .val (.int 2)] [(.ref o1), (.int 2)])) rfl rfl (hb hby d20_2) _ ?_
    show Steps p.tables e below (s₁.setTop (mkF m 3 #[.val (.ref o1), .val (.int 2)] [(.int 2), (.int 2)])) _
    refine XS.isub X0.here hx rfl (hb hby d20_3) rfl ?_
    show Steps p.tables e below (s₁.setTop (mkF m 4 #[.val (.ref o1), .val (.int 2)] [(.int ((2 : Int32) - (2 : Int32)))])) _
    rw [(by decide : ((2 : Int32) - (2 : Int32)) = (0 : Int32))]
    show Steps p.tables e below (s₁.setTop (mkF m 4 #[.val (.ref o1), .val (.int 2)] [(.int 0)])) _
    refine XS.bipush X0.here hx rfl (hb hby d20_4) ?_
    show Steps p.tables e below (s₁.setTop (mkF m 6 #[.val (.ref o1), .val (.int 2)] [(.int 31), (.int 0)])) _
    refine XS.iushr X0.here hx rfl (hb hby d20_6) rfl ?_
    show Steps p.tables e below (s₁.setTop (mkF m 7 #[.val (.ref o1), .val (.int 2)] [(.int (((0 : Int32).toUInt32 >>> ((31 : Int32) &&& 31).toUInt32).toInt32))])) _
    rw [(by decide : (((0 : Int32).toUInt32 >>> ((31 : Int32) &&& 31).toUInt32).toInt32) = (0 : Int32))]
    show Steps p.tables e below (s₁.setTop (mkF m 7 #[.val (.ref o1), .val (.int 2)] [(.int 0)])) _
    refine XS.i2b X0.here hx rfl (hb hby d20_7) rfl ?_
    show Steps p.tables e below (s₁.setTop (mkF m 8 #[.val (.ref o1), .val (.int 2)] [(.int ((0 : Int32).toInt8.toInt32))])) _
    rw [(by decide : ((0 : Int32).toInt8.toInt32) = (0 : Int32))]
    show Steps p.tables e below (s₁.setTop (mkF m 8 #[.val (.ref o1), .val (.int 2)] [(.int 0)])) _
    exact retN X0 hx (t := .byte) Bd.returns (by simp) (hb hby d20_8) hr
  · show Q20_o1_2 Z o1 kk_o1 x0 x1 h0 n0 _ s₁.heap _
    rw [e0]
    exact ⟨rfl, N0, rfl⟩
def Q3_o1_o2_0_2_null (Z : State) (o1 : Addr) (o2 : Addr) (w_COMPACT_STRINGS : Int32) (kk_o2 : ClassId) (x0 : Int32) (x1 : Int32) (h0 : Heap) (n0 : Nat) (v : Option Value) (h : Heap) (L : List Loc) : Prop := ∃ (c1 : Addr), ∃ (kd2 : ClassId), v = none ∧ Fr n0 L ∧ Keep h0 h [o1] ∧ h0.size ≤ c1 ∧ Exa Z h o1 "java/lang/String" ∧ Fld Z h o1 "java/lang/String" "coder" "B" (.int 0) ∧ Fld Z h o1 "java/lang/String" "value" "[B" (.ref c1) ∧ Arv Z h c1 kd2 .byte (2 : Int32) [(.int (nar .byte (x0.toInt8.toInt32))), (.int (nar .byte (x1.toInt8.toInt32)))] (.int (0 : Int32))
set_option maxRecDepth 65536 in
set_option maxHeartbeats 40000000 in
theorem rm3_o1_o2_0_2_null (l : Launch) (Z : State) (a0 : Array Value) (hw : ∀ d ∈ tables_1, d.before a0 Z = true) (ws : List Jvm.Cond) (o1 : Addr) (o2 : Addr) (w_COMPACT_STRINGS : Int32) (kk_o2 : ClassId) (x0 : Int32) (x1 : Int32) (h0 : Heap) (n0 : Nat) (Z0 : n0 ≤ h0.size) (S_COMPACT_STRINGS : Sta Z h0 "java/lang/String" "COMPACT_STRINGS" "Z" (.int w_COMPACT_STRINGS)) (hc30 : ¬ (w_COMPACT_STRINGS = (0 : Int32))) (V_o2 : Arv Z h0 o2 kk_o2 .char (2 : Int32) [(.int x0), (.int x1)] (.int (0 : Int32))) (hhi_x0 : x0 < (256 : Int32)) (hhi_x1 : x1 < (256 : Int32)) (E_o1 : Exa Z h0 o1 "java/lang/String") (F_coder_o1 : Fld Z h0 o1 "java/lang/String" "coder" "B" (.int 0)) (g_o1 : n0 ≤ o1) (F_value_o1 : Fld Z h0 o1 "java/lang/String" "value" "[B" .null) :
    MetFree l (⟨"java/lang/String", "<init>", "([CIILjava/lang/Void;)V"⟩ : MethodName) (head1 (Jvm.Cond.code (⟨"java/lang/String", "<init>", "([CIILjava/lang/Void;)V"⟩ : MethodName) jdk_42_method_149_code 6 none :: ws) ({ frames := 2, cells := 1, slots := 2, locals := 35 } : Room)) (fun a U => a = #[(.ref o1), (.ref o2), (.int 0), (.int 2), .null] ∧ Z.Warmed39 U.vm ∧ U.heap = h0) (fun _ _ _ _ _ => True) (fun _ U o U' => ∃ v L, o = .returned v ∧ Q3_o1_o2_0_2_null Z o1 o2 w_COMPACT_STRINGS kk_o2 x0 x1 h0 n0 v U'.heap L ∧ FrameEnd U o U' L ({ frames := 2, cells := 1, slots := 2, locals := 35 } : Room).cells ({ frames := 2, cells := 1, slots := 2, locals := 35 } : Room).slots) := by
  refine MetFree.of_bodySF (plainFor_of_name pn_3) hisR ?_
  intro p e s m args below meth c s₁ Bd hml0 hP hK
  obtain ⟨rfl, hZ, hh⟩ := hP
  have hx := Bd.exec
  have hby := Bd.bytes
  have hml : c.maxLocals = 6 := hml0
  have hown : s.vm.findClass "java/lang/String" = some m.cls := findClass_of_methodNamed Bd.named
  have hnm := (name_of_methodNamed Bd.named Bd.method).1
  have X0 : Stand p l e ({ frames := 2, cells := 1, slots := 2, locals := 35 } : Room) s m #[(.ref o1), (.ref o2), (.int 0), (.int 2), .null] below meth c s₁ [] 0 0 := Stand.of_body Bd
  have e0 : s₁.heap = h0 := by rw [← hh, Bd.state]; rfl
  have N0 := Fr.nil n0
  have pre0 : ∀ t, Steps p.tables e below (s₁.setTop (mkF m 0 #[.val (.ref o1), .val (.ref o2), .val (.int 0), .val (.int 2), .val .null, .unset] [])) t → Steps p.tables e below (s₁.setTop (entryFrame m #[(.ref o1), (.ref o2), (.int 0), (.int 2), .null] 6)) t := fun t k => castTop (by first | (simp [entryFrame, mkF, argsToLocals, Value.category]; done) | rfl) k
  obtain ⟨T1, X1, e1, st1⟩ := initO X0 hx hZ hown (hw _ (List.mem_of_getElem? (i := 22) rfl)) (hw _ (List.mem_of_getElem? (i := 23) rfl)) (hw _ (List.mem_of_getElem? (i := 24) rfl)) e0 (g := (mkF m 1 #[.val (.ref o1), .val (.ref o2), .val (.int 0), .val (.int 2), .val .null, .unset] [(.ref o1)])) rfl (by rw [hml]; rfl) rfl (hb hby d3_1) (by decide) (W := 0) (by show 2 * 0 + _ ≤ _; exact Nat.le_of_eq rfl) (by decide)
  obtain ⟨T2, X2, e2, st2⟩ := getS2 X1 hx hZ hown (host := "") (Or.inl (hw _ (List.mem_of_getElem? (i := 123) rfl))) Via.refl e1 S_COMPACT_STRINGS (g := (mkF m 27 #[.val (.ref o1), .val (.ref o2), .val (.int 0), .val (.int 2), .val .null, .unset] [])) rfl (hb hby d3_27)
  obtain ⟨_, _, ⟨T3, L3, k3, n3⟩, -, X3, ⟨Lc3, hQ3, l3, y3, z3⟩, st3⟩ := Jvm.LawKit.callS X2 hx (y := (⟨"java/lang/StringUTF16", "compress", "([CII)[B"⟩ : MethodName)) hown (mvT hZ (hw _ (List.mem_of_getElem? (i := 124) rfl))) (mvT hZ (hw _ (List.mem_of_getElem? (i := 125) rfl))) (mvT hZ (hw _ (List.mem_of_getElem? (i := 126) rfl))) (mvT hZ (hw _ (List.mem_of_getElem? (i := 127) rfl))) (by decide) (backOf (W := 0) (rm18_o1_0_2 l Z a0 hw [] o2 kk_o2 x0 x1 h0 n0 Z0 V_o2 hhi_x0 hhi_x1) hZ (hw _ (List.mem_of_getElem? (i := 127) rfl)) (hw _ (List.mem_of_getElem? (i := 126) rfl)) (by decide) (by decide)) (g := (mkF m 36 #[.val (.ref o1), .val (.ref o2), .val (.int 0), .val (.int 2), .val .null, .unset] [(.int 2), (.int 0), (.ref o2)])) rfl (by rw [hml]; rfl) (argsL := [(.ref o2), (.int 0), (.int 2)]) (rest := []) (lenOf pd___CII__B rfl) rfl (by show 2 * 0 + _ ≤ _; exact Nat.le_of_eq rfl) (hb hby d3_36) (fun _ _ => ⟨rfl, e2, (by decide : 0 + 1 ≤ _), (by decide : 0 + 2 ≤ _)⟩)
  dsimp only [Pt.U, Pt.locs, Pt.cells, Pt.slots] at X3 l3 y3 z3 st3 hQ3
  subst l3 y3 z3
  obtain ⟨b3c1, kc3kd2, rfl, N3q, Kq3, s_b3c1, fq3_0⟩ := hQ3
  have N3 := Fr.app N0 N3q
  have g_b3c1 : n0 ≤ b3c1 := Nat.le_trans Z0 s_b3c1
  have sz_b3c1 : h0.size ≤ b3c1 := s_b3c1
  have K3 : Keep h0 T3.heap [o1] := (Keep.refl h0 [o1]).trans Kq3 all0
  obtain ⟨_, _, ⟨T4, L4, k4, n4⟩, -, X4, ⟨Lc4, hQ4, l4, y4, z4⟩, st4⟩ := Jvm.LawKit.callS X3 hx (y := (⟨"java/lang/StringUTF16", "coderFromArrayLen", "([BI)B"⟩ : MethodName)) hown (mvT hZ (hw _ (List.mem_of_getElem? (i := 131) rfl))) (mvT hZ (hw _ (List.mem_of_getElem? (i := 132) rfl))) (mvT hZ (hw _ (List.mem_of_getElem? (i := 126) rfl))) (mvT hZ (hw _ (List.mem_of_getElem? (i := 133) rfl))) (by decide) (backOf (W := 1) (rm20_o1_2 l Z a0 hw [] b3c1 kc3kd2 x0 x1 T3.heap n0 (Nat.le_trans Z0 K3.1) fq3_0) hZ (hw _ (List.mem_of_getElem? (i := 133) rfl)) (hw _ (List.mem_of_getElem? (i := 126) rfl)) (by decide) (by decide)) (g := (mkF m 45 #[.val (.ref o1), .val (.ref o2), .val (.int 0), .val (.int 2), .val .null, .val (.ref b3c1)] [(.int 2), (.ref b3c1), (.ref o1)])) rfl (by rw [hml]; rfl) (argsL := [(.ref b3c1), (.int 2)]) (rest := [(.ref o1)]) (lenOf pd___BI_B rfl) rfl (by show 2 * 0 + _ ≤ _; exact Nat.le_of_eq rfl) (hb hby d3_45) (fun _ _ => ⟨rfl, rfl, (by decide : 1 + 0 ≤ _), (by decide : 2 + 0 ≤ _)⟩)
  dsimp only [Pt.U, Pt.locs, Pt.cells, Pt.slots] at X4 l4 y4 z4 st4 hQ4
  subst l4 y4 z4
  obtain ⟨rfl, N4q, e4⟩ := hQ4
  have N4 := Fr.app N3 N4q
  obtain ⟨T5, h5, X5, e5, W5, st5⟩ := putFN X4 hx hZ hown (hw _ (List.mem_of_getElem? (i := 32) rfl)) Via.refl e4 (F_coder_o1.keep Kq3 nin0) (E_o1.keep Kq3) (Or.inr ⟨(hw _ (List.mem_of_getElem? (i := 28) rfl)), rfl, hnm⟩) (hw _ (List.mem_of_getElem? (i := 12) rfl)) (ty := .byte) (v' := (.int 0)) (by decide) (by decide) (by decide) (g := (mkF m 48 #[.val (.ref o1), .val (.ref o2), .val (.int 0), .val (.int 2), .val .null, .val (.ref b3c1)] [(.int 0), (.ref o1)])) rfl rfl (hb hby d3_48)
  have Fw5 := (F_coder_o1.keep Kq3 nin0).same W5
  have N5 := Fr.snoc X5 N4 g_o1
  have K5 : Keep h0 h5 [o1] := K3.wr W5 (Or.inl (List.mem_of_getElem? (i := 0) rfl))
  obtain ⟨T6, h6, X6, e6, W6, st6⟩ := putF X5 hx hZ hown (host := "") (Or.inl (hw _ (List.mem_of_getElem? (i := 31) rfl))) Via.refl e5 ((F_value_o1.keep Kq3 nin0).other W5 (Or.inr (slot_ne (Or.inr (hw _ (List.mem_of_getElem? (i := 27) rfl))) (Or.inr (hw _ (List.mem_of_getElem? (i := 28) rfl))) (by decide) (t := (.array .byte)) (t' := .byte) (by decide) (by decide)))) ((E_o1.keep Kq3).wr W5) (Or.inr ⟨(hw _ (List.mem_of_getElem? (i := 27) rfl)), rfl, hnm⟩) (hw _ (List.mem_of_getElem? (i := 12) rfl)) (ty := (.array .byte)) (by decide) rfl rfl (g := (mkF m 54 #[.val (.ref o1), .val (.ref o2), .val (.int 0), .val (.int 2), .val .null, .val (.ref b3c1)] [(.ref b3c1), (.ref o1)])) rfl rfl (hb hby d3_54)
  have Fw6 := ((F_value_o1.keep Kq3 nin0).other W5 (Or.inr (slot_ne (Or.inr (hw _ (List.mem_of_getElem? (i := 27) rfl))) (Or.inr (hw _ (List.mem_of_getElem? (i := 28) rfl))) (by decide) (t := (.array .byte)) (t' := .byte) (by decide) (by decide)))).same W6
  have N6 := Fr.snoc X6 N5 g_o1
  have K6 : Keep h0 h6 [o1] := K5.wr W6 (Or.inl (List.mem_of_getElem? (i := 0) rfl))
  obtain ⟨fs, hr, hrun, hended, hW, hsame⟩ := X6.leave (v := none) (fun _ => rfl)
  refine ⟨_, _, pre0 _ ?_, hrun, hended, _, _, rfl, ?_, ⟨_, rfl⟩, hW, hsame.mono (by decide) (by decide)⟩
  · show Steps p.tables e below (s₁.setTop (mkF m 0 #[.val (.ref o1), .val (.ref o2), .val (.int 0), .val (.int 2), .val .null, .unset] [])) _
    refine XS.aloadN X0.here hx rfl (hb hby d3_0) rfl rfl ?_
    show Steps p.tables e below (s₁.setTop (mkF m 1 #[.val (.ref o1), .val (.ref o2), .val (.int 0), .val (.int 2), .val .null, .unset] [(.ref o1)])) _
    refine st1 _ ?_
    show Steps p.tables e below (T1.setTop (mkF m 4 #[.val (.ref o1), .val (.ref o2), .val (.int 0), .val (.int 2), .val .null, .unset] [])) _
    refine XS.iloadN X1.here hx rfl (hb hby d3_4) rfl ?_
    show Steps p.tables e below (T1.setTop (mkF m 5 #[.val (.ref o1), .val (.ref o2), .val (.int 0), .val (.int 2), .val .null, .unset] [(.int 2)])) _
    refine XS.ifYes X1.here hx rfl (pc0 := 5) (pc' := 27) rfl (hb hby d3_5) rfl ((if0 _ _).trans (feq (by decide : ¬ ((2 : Int32) = (0 : Int32)))).2) (by decide) (by decide) ?_
    show Steps p.tables e below (T1.setTop (mkF m 27 #[.val (.ref o1), .val (.ref o2), .val (.int 0), .val (.int 2), .val .null, .unset] [])) _
    refine st2 _ ?_
    show Steps p.tables e below (T2.setTop (mkF m 30 #[.val (.ref o1), .val (.ref o2), .val (.int 0), .val (.int 2), .val .null, .unset] [(.int w_COMPACT_STRINGS)])) _
    refine XS.ifNo X2.here hx rfl (hb hby d3_30) rfl ((if0 _ _).trans (feq hc30).1) ?_
    show Steps p.tables e below (T2.setTop (mkF m 33 #[.val (.ref o1), .val (.ref o2), .val (.int 0), .val (.int 2), .val .null, .unset] [])) _
    refine XS.aloadN X2.here hx rfl (hb hby d3_33) rfl rfl ?_
    show Steps p.tables e below (T2.setTop (mkF m 34 #[.val (.ref o1), .val (.ref o2), .val (.int 0), .val (.int 2), .val .null, .unset] [(.ref o2)])) _
    refine XS.iloadN X2.here hx rfl (hb hby d3_34) rfl ?_
    show Steps p.tables e below (T2.setTop (mkF m 35 #[.val (.ref o1), .val (.ref o2), .val (.int 0), .val (.int 2), .val .null, .unset] [(.int 0), (.ref o2)])) _
    refine XS.iloadN X2.here hx rfl (hb hby d3_35) rfl ?_
    show Steps p.tables e below (T2.setTop (mkF m 36 #[.val (.ref o1), .val (.ref o2), .val (.int 0), .val (.int 2), .val .null, .unset] [(.int 2), (.int 0), (.ref o2)])) _
    refine st3 _ ?_
    show Steps p.tables e below (T3.setTop (mkF m 39 #[.val (.ref o1), .val (.ref o2), .val (.int 0), .val (.int 2), .val .null, .unset] [(.ref b3c1)])) _
    refine XS.astore X3.here hx rfl (hb hby d3_39) rfl rfl (l' := #[.val (.ref o1), .val (.ref o2), .val (.int 0), .val (.int 2), .val .null, .val (.ref b3c1)]) rfl ?_
    show Steps p.tables e below (T3.setTop (mkF m 41 #[.val (.ref o1), .val (.ref o2), .val (.int 0), .val (.int 2), .val .null, .val (.ref b3c1)] [])) _
    refine XS.aloadN X3.here hx rfl (hb hby d3_41) rfl rfl ?_
    show Steps p.tables e below (T3.setTop (mkF m 42 #[.val (.ref o1), .val (.ref o2), .val (.int 0), .val (.int 2), .val .null, .val (.ref b3c1)] [(.ref o1)])) _
    refine XS.aload X3.here hx rfl (hb hby d3_42) rfl rfl ?_
    show Steps p.tables e below (T3.setTop (mkF m 44 #[.val (.ref o1), .val (.ref o2), .val (.int 0), .val (.int 2), .val .null, .val (.ref b3c1)] [(.ref b3c1), (.ref o1)])) _
    refine XS.iloadN X3.here hx rfl (hb hby d3_44) rfl ?_
    show Steps p.tables e below (T3.setTop (mkF m 45 #[.val (.ref o1), .val (.ref o2), .val (.int 0), .val (.int 2), .val .null, .val (.ref b3c1)] [(.int 2), (.ref b3c1), (.ref o1)])) _
    refine st4 _ ?_
    show Steps p.tables e below (T4.setTop (mkF m 48 #[.val (.ref o1), .val (.ref o2), .val (.int 0), .val (.int 2), .val .null, .val (.ref b3c1)] [(.int 0), (.ref o1)])) _
    refine st5 _ ?_
    show Steps p.tables e below (T5.setTop (mkF m 51 #[.val (.ref o1), .val (.ref o2), .val (.int 0), .val (.int 2), .val .null, .val (.ref b3c1)] [])) _
    refine XS.aloadN X5.here hx rfl (hb hby d3_51) rfl rfl ?_
    show Steps p.tables e below (T5.setTop (mkF m 52 #[.val (.ref o1), .val (.ref o2), .val (.int 0), .val (.int 2), .val .null, .val (.ref b3c1)] [(.ref o1)])) _
    refine XS.aload X5.here hx rfl (hb hby d3_52) rfl rfl ?_
    show Steps p.tables e below (T5.setTop (mkF m 54 #[.val (.ref o1), .val (.ref o2), .val (.int 0), .val (.int 2), .val .null, .val (.ref b3c1)] [(.ref b3c1), (.ref o1)])) _
    refine st6 _ ?_
    show Steps p.tables e below (T6.setTop (mkF m 57 #[.val (.ref o1), .val (.ref o2), .val (.int 0), .val (.int 2), .val .null, .val (.ref b3c1)] [])) _
    exact X6.returnOut hx Bd.returns (hb hby d3_57) hr
  · show Q3_o1_o2_0_2_null Z o1 o2 w_COMPACT_STRINGS kk_o2 x0 x1 h0 n0 _ T6.heap _
    rw [e6]
    exact ⟨b3c1, kc3kd2, rfl, N6, K6, sz_b3c1, (((E_o1.keep Kq3).wr W5).wr W6), (Fw5.other W6 (Or.inr (slot_ne (Or.inr (hw _ (List.mem_of_getElem? (i := 28) rfl))) (Or.inr (hw _ (List.mem_of_getElem? (i := 27) rfl))) (by decide) (t := .byte) (t' := (.array .byte)) (by decide) (by decide)))), Fw6, ((fq3_0.other W5 (Ne.symm (Nat.ne_of_lt (Nat.lt_of_lt_of_le (E_o1).lt sz_b3c1)))).other W6 (Ne.symm (Nat.ne_of_lt (Nat.lt_of_lt_of_le (E_o1).lt sz_b3c1))))⟩
def Q2_o1_o2_w2 (Z : State) (o1 : Addr) (o2 : Addr) (kk_o2 : ClassId) (x0 : Int32) (x1 : Int32) (w_COMPACT_STRINGS : Int32) (h0 : Heap) (n0 : Nat) (v : Option Value) (h : Heap) (L : List Loc) : Prop := ∃ (c1 : Addr), ∃ (kd2 : ClassId), v = none ∧ Fr n0 L ∧ Keep h0 h [o1] ∧ h0.size ≤ c1 ∧ Exa Z h o1 "java/lang/String" ∧ Fld Z h o1 "java/lang/String" "coder" "B" (.int 0) ∧ Fld Z h o1 "java/lang/String" "value" "[B" (.ref c1) ∧ Arv Z h c1 kd2 .byte (2 : Int32) [(.int (nar .byte (x0.toInt8.toInt32))), (.int (nar .byte (x1.toInt8.toInt32)))] (.int (0 : Int32))
set_option maxRecDepth 65536 in
set_option maxHeartbeats 40000000 in
theorem rm2_o1_o2_w2 (l : Launch) (Z : State) (a0 : Array Value) (hw : ∀ d ∈ tables_1, d.before a0 Z = true) (ws : List Jvm.Cond) (o1 : Addr) (o2 : Addr) (kk_o2 : ClassId) (x0 : Int32) (x1 : Int32) (w_COMPACT_STRINGS : Int32) (h0 : Heap) (n0 : Nat) (Z0 : n0 ≤ h0.size) (V_o2 : Arv Z h0 o2 kk_o2 .char (2 : Int32) [(.int x0), (.int x1)] (.int (0 : Int32))) (S_COMPACT_STRINGS : Sta Z h0 "java/lang/String" "COMPACT_STRINGS" "Z" (.int w_COMPACT_STRINGS)) (hc30 : ¬ (w_COMPACT_STRINGS = (0 : Int32))) (hhi_x0 : x0 < (256 : Int32)) (hhi_x1 : x1 < (256 : Int32)) (E_o1 : Exa Z h0 o1 "java/lang/String") (F_coder_o1 : Fld Z h0 o1 "java/lang/String" "coder" "B" (.int 0)) (g_o1 : n0 ≤ o1) (F_value_o1 : Fld Z h0 o1 "java/lang/String" "value" "[B" .null) :
    MetFree l (⟨"java/lang/String", "<init>", "([C)V"⟩ : MethodName) (head1 (Jvm.Cond.code (⟨"java/lang/String", "<init>", "([C)V"⟩ : MethodName) jdk_42_method_3_code 2 none :: ws) ({ frames := 3, cells := 1, slots := 2, locals := 52 } : Room)) (fun a U => a = #[(.ref o1), (.ref o2)] ∧ Z.Warmed39 U.vm ∧ U.heap = h0) (fun _ _ _ _ _ => True) (fun _ U o U' => ∃ v L, o = .returned v ∧ Q2_o1_o2_w2 Z o1 o2 kk_o2 x0 x1 w_COMPACT_STRINGS h0 n0 v U'.heap L ∧ FrameEnd U o U' L ({ frames := 3, cells := 1, slots := 2, locals := 52 } : Room).cells ({ frames := 3, cells := 1, slots := 2, locals := 52 } : Room).slots) := by
  refine MetFree.of_bodySF (plainFor_of_name pn_2) hisR ?_
  intro p e s m args below meth c s₁ Bd hml0 hP hK
  obtain ⟨rfl, hZ, hh⟩ := hP
  have hx := Bd.exec
  have hby := Bd.bytes
  have hml : c.maxLocals = 2 := hml0
  have hown : s.vm.findClass "java/lang/String" = some m.cls := findClass_of_methodNamed Bd.named
  have hnm := (name_of_methodNamed Bd.named Bd.method).1
  have X0 : Stand p l e ({ frames := 3, cells := 1, slots := 2, locals := 52 } : Room) s m #[(.ref o1), (.ref o2)] below meth c s₁ [] 0 0 := Stand.of_body Bd
  have e0 : s₁.heap = h0 := by rw [← hh, Bd.state]; rfl
  have N0 := Fr.nil n0
  have pre0 : ∀ t, Steps p.tables e below (s₁.setTop (mkF m 0 #[.val (.ref o1), .val (.ref o2)] [])) t → Steps p.tables e below (s₁.setTop (entryFrame m #[(.ref o1), (.ref o2)] 2)) t := fun t k => castTop (by first | (simp [entryFrame, mkF, argsToLocals, Value.category]; done) | rfl) k
  obtain ⟨_, _, ⟨T1, L1, k1, n1⟩, -, X1, ⟨Lc1, hQ1, l1, y1, z1⟩, st1⟩ := X0.specialBack hx (y := (⟨"java/lang/String", "<init>", "([CIILjava/lang/Void;)V"⟩ : MethodName)) rfl hown (mvT hZ (hw _ (List.mem_of_getElem? (i := 18) rfl))) (mvT hZ (hw _ (List.mem_of_getElem? (i := 19) rfl))) (mvT hZ (hw _ (List.mem_of_getElem? (i := 21) rfl))) (by decide) (backOf (W := 0) (rm3_o1_o2_0_2_null l Z a0 hw [] o1 o2 w_COMPACT_STRINGS kk_o2 x0 x1 h0 n0 Z0 S_COMPACT_STRINGS hc30 V_o2 hhi_x0 hhi_x1 E_o1 F_coder_o1 g_o1 F_value_o1) hZ (hw _ (List.mem_of_getElem? (i := 21) rfl)) (hw _ (List.mem_of_getElem? (i := 13) rfl)) (by decide) (by decide)) (g := (mkF m 6 #[.val (.ref o1), .val (.ref o2)] [.null, (.int 2), (.int 0), (.ref o2), (.ref o1)])) rfl (by rw [hml]; rfl) (Steps.refl _) (a := o1) (argsL := [(.ref o2), (.int 0), (.int 2), .null]) (rest := []) (lenOf pd___CIILjava_lang_Void__V rfl) rfl (by show 2 * 0 + _ ≤ _; exact Nat.le_of_eq rfl) (hb hby d2_6) (fun _ _ => ⟨rfl, e0, (by decide : 0 + 1 ≤ _), (by decide : 0 + 2 ≤ _)⟩)
  dsimp only [Pt.U, Pt.locs, Pt.cells, Pt.slots] at X1 l1 y1 z1 st1 hQ1
  subst l1 y1 z1
  obtain ⟨b1c1, kc1kd2, rfl, N1q, Kq1, s_b1c1, fq1_0, fq1_1, fq1_2, fq1_3⟩ := hQ1
  have N1 := Fr.app N0 N1q
  have g_b1c1 : n0 ≤ b1c1 := Nat.le_trans Z0 s_b1c1
  have sz_b1c1 : h0.size ≤ b1c1 := s_b1c1
  have K1 : Keep h0 T1.heap [o1] := (Keep.refl h0 [o1]).trans Kq1 (allS (Or.inl (List.mem_of_getElem? (i := 0) rfl)) all0)
  obtain ⟨fs, hr, hrun, hended, hW, hsame⟩ := X1.leave (v := none) (fun _ => rfl)
  refine ⟨_, _, pre0 _ ?_, hrun, hended, _, _, rfl, ?_, ⟨_, rfl⟩, hW, hsame.mono (by decide) (by decide)⟩
  · show Steps p.tables e below (s₁.setTop (mkF m 0 #[.val (.ref o1), .val (.ref o2)] [])) _
    refine XS.aloadN X0.here hx rfl (hb hby d2_0) rfl rfl ?_
    show Steps p.tables e below (s₁.setTop (mkF m 1 #[.val (.ref o1), .val (.ref o2)] [(.ref o1)])) _
    refine XS.aloadN X0.here hx rfl (hb hby d2_1) rfl rfl ?_
    show Steps p.tables e below (s₁.setTop (mkF m 2 #[.val (.ref o1), .val (.ref o2)] [(.ref o2), (.ref o1)])) _
    refine XS.iconst X0.here hx rfl (hb hby d2_2) ?_
    show Steps p.tables e below (s₁.setTop (mkF m 3 #[.val (.ref o1), .val (.ref o2)] [(.int 0), (.ref o2), (.ref o1)])) _
    refine XS.aloadN X0.here hx rfl (hb hby d2_3) rfl rfl ?_
    show Steps p.tables e below (s₁.setTop (mkF m 4 #[.val (.ref o1), .val (.ref o2)] [(.ref o2), (.int 0), (.ref o2), (.ref o1)])) _
    refine own_len X0 hx hZ e0 V_o2 (g := (mkF m 4 #[.val (.ref o1), .val (.ref o2)] [(.ref o2), (.int 0), (.ref o2), (.ref o1)])) rfl rfl (hb hby d2_4) _ ?_
    show Steps p.tables e below (s₁.setTop (mkF m 5 #[.val (.ref o1), .val (.ref o2)] [(.int 2), (.int 0), (.ref o2), (.ref o1)])) _
    refine XS.aconstNull X0.here hx rfl (hb hby d2_5) ?_
    show Steps p.tables e below (s₁.setTop (mkF m 6 #[.val (.ref o1), .val (.ref o2)] [.null, (.int 2), (.int 0), (.ref o2), (.ref o1)])) _
    refine st1.trans ?_
    show Steps p.tables e below (T1.setTop (mkF m 9 #[.val (.ref o1), .val (.ref o2)] [])) _
    exact X1.returnOut hx Bd.returns (hb hby d2_9) hr
  · show Q2_o1_o2_w2 Z o1 o2 kk_o2 x0 x1 w_COMPACT_STRINGS h0 n0 _ T1.heap _
    exact ⟨b1c1, kc1kd2, rfl, N1, K1, sz_b1c1, fq1_0, fq1_1, fq1_2, fq1_3⟩
def Q1_2_x0_x1_x2_m1_256_m1_256_m1_256 (Z : State) (x0 : Int32) (x1 : Int32) (x2 : Int32) (w_COMPACT_STRINGS : Int32) (h0 : Heap) (n0 : Nat) (v : Option Value) (h : Heap) (L : List Loc) : Prop := ∃ (c1 : Addr), ∃ (c2 : Addr), ∃ (kd3 : ClassId), v = some (.ref c1) ∧ Fr n0 L ∧ Keep h0 h [] ∧ h0.size ≤ c1 ∧ h0.size ≤ c2 ∧ c1 ≠ c2 ∧ Exa Z h c1 "java/lang/String" ∧ Fld Z h c1 "java/lang/String" "coder" "B" (.int 0) ∧ Fld Z h c1 "java/lang/String" "value" "[B" (.ref c2) ∧ Arv Z h c2 kd3 .byte (2 : Int32) [(.int (nar .byte (x0.toInt8.toInt32))), (.int (nar .byte (x1.toInt8.toInt32)))] (.int (0 : Int32))
set_option maxRecDepth 65536 in
set_option maxHeartbeats 40000000 in
theorem rm1_2_x0_x1_x2_m1_256_m1_256_m1_256 (l : Launch) (Z : State) (a0 : Array Value) (hw : ∀ d ∈ tables_1, d.before a0 Z = true) (ws : List Jvm.Cond) (x0 : Int32) (x1 : Int32) (x2 : Int32) (w_COMPACT_STRINGS : Int32) (h0 : Heap) (n0 : Nat) (Z0 : n0 ≤ h0.size) (hlo_x0 : (-1 : Int32) < x0) (hhi_x0 : x0 < (256 : Int32)) (hlo_x1 : (-1 : Int32) < x1) (hhi_x1 : x1 < (256 : Int32)) (S_COMPACT_STRINGS : Sta Z h0 "java/lang/String" "COMPACT_STRINGS" "Z" (.int w_COMPACT_STRINGS)) (hc30 : ¬ (w_COMPACT_STRINGS = (0 : Int32))) :
    MetFree l (⟨"com/example/stanza_filter/stanzafilter/engine/PrivacyItemGroupPinLaw", "makeString", "(ICCC)Ljava/lang/String;"⟩ : MethodName) (head1 (Jvm.Cond.code (⟨"com/example/stanza_filter/stanzafilter/engine/PrivacyItemGroupPinLaw", "makeString", "(ICCC)Ljava/lang/String;"⟩ : MethodName) method_3_code 5 (some (.object "java/lang/String")) :: ws) ({ frames := 4, cells := 3, slots := 8, locals := 66 } : Room)) (fun a U => a = #[(.int 2), (.int x0), (.int x1), (.int x2)] ∧ Z.Warmed39 U.vm ∧ U.heap = h0) (fun _ _ _ _ _ => True) (fun _ U o U' => ∃ v L, o = .returned v ∧ Q1_2_x0_x1_x2_m1_256_m1_256_m1_256 Z x0 x1 x2 w_COMPACT_STRINGS h0 n0 v U'.heap L ∧ FrameEnd U o U' L ({ frames := 4, cells := 3, slots := 8, locals := 66 } : Room).cells ({ frames := 4, cells := 3, slots := 8, locals := 66 } : Room).slots) := by
  refine MetFree.of_bodySF (plainFor_of_name pn_1) hisR ?_
  intro p e s m args below meth c s₁ Bd hml0 hP hK
  obtain ⟨rfl, hZ, hh⟩ := hP
  have hx := Bd.exec
  have hby := Bd.bytes
  have hml : c.maxLocals = 5 := hml0
  have hown : s.vm.findClass "com/example/stanza_filter/stanzafilter/engine/PrivacyItemGroupPinLaw" = some m.cls := findClass_of_methodNamed Bd.named
  have hnm := (name_of_methodNamed Bd.named Bd.method).1
  have X0 : Stand p l e ({ frames := 4, cells := 3, slots := 8, locals := 66 } : Room) s m #[(.int 2), (.int x0), (.int x1), (.int x2)] below meth c s₁ [] 0 0 := Stand.of_body Bd
  have e0 : s₁.heap = h0 := by rw [← hh, Bd.state]; rfl
  have N0 := Fr.nil n0
  have pre0 : ∀ t, Steps p.tables e below (s₁.setTop (mkF m 0 #[.val (.int 2), .val (.int x0), .val (.int x1), .val (.int x2), .unset] [])) t → Steps p.tables e below (s₁.setTop (entryFrame m #[(.int 2), (.int x0), (.int x1), (.int x2)] 5)) t := fun t k => castTop (by first | (simp [entryFrame, mkF, argsToLocals, Value.category]; done) | rfl) k
  obtain ⟨T1, h1, k1, X1, e1, E1, A1, st1⟩ := newP X0 hx hZ (hw _ (List.mem_of_getElem? (i := 14) rfl)) e0 (g := (mkF m 46 #[.val (.int 2), .val (.int x0), .val (.int x1), .val (.int x2), .unset] [(.int 2)])) rfl (hb hby d1_46) rfl (by decide) (cap := 2) (by decide) (by decide) (by decide) (by decide)
  obtain ⟨b1, g1⟩ : ∃ z, z = h0.size := ⟨_, rfl⟩
  have s_b1 : h0.size ≤ b1 := Nat.le_of_eq g1.symm
  have g_b1 : n0 ≤ b1 := Nat.le_trans Z0 s_b1
  have sz_b1 : h0.size ≤ b1 := s_b1
  rw [← g1] at A1 st1
  have K1 : Keep h0 h1 [] := (Keep.refl h0 []).ext E1
  have V_b1 : Arv Z h1 b1 k1 .char (2 : Int32) [(.int 0), (.int 0)] (.int (0 : Int32)) := (Arv.new A1 (by decide)).pad (pad_rep [] (.int (0 : Int32)) 2)
  obtain ⟨T2, h2, X2, e2, W2, Vw2, st2⟩ := own_stC X1 hx hZ e1 V_b1 (x' := x0) (own_nar hlo_x0 hhi_x0) 0 rfl ⟨by decide, by decide⟩ (Nat.le_of_ble_eq_true rfl) (g := (mkF m 54 #[.val (.int 2), .val (.int x0), .val (.int x1), .val (.int x2), .val (.ref b1)] [(.int x0), (.int 0), (.ref b1)])) rfl rfl (hb hby d1_54)
  have N2 := Fr.snoc X2 N0 g_b1
  have K2 : Keep h0 h2 [] := K1.wr W2 (Or.inr sz_b1)
  have V2_b1 : Arv Z h2 b1 k1 .char (2 : Int32) [(.int x0), (.int 0)] (.int (0 : Int32)) := Vw2
  obtain ⟨T3, h3, X3, e3, W3, Vw3, st3⟩ := own_stC X2 hx hZ e2 V2_b1 (x' := x1) (own_nar hlo_x1 hhi_x1) 1 rfl ⟨by decide, by decide⟩ (Nat.le_of_ble_eq_true rfl) (g := (mkF m 59 #[.val (.int 2), .val (.int x0), .val (.int x1), .val (.int x2), .val (.ref b1)] [(.int x1), (.int 1), (.ref b1)])) rfl rfl (hb hby d1_59)
  have N3 := Fr.snoc X3 N2 g_b1
  have K3 : Keep h0 h3 [] := K2.wr W3 (Or.inr sz_b1)
  have V3_b1 : Arv Z h3 b1 k1 .char (2 : Int32) [(.int x0), (.int x1)] (.int (0 : Int32)) := Vw3
  obtain ⟨T4, h4, X4, e4, E4, A4, D4, -, st4⟩ := newO X3 hx hZ hown (hw _ (List.mem_of_getElem? (i := 11) rfl)) (hw _ (List.mem_of_getElem? (i := 12) rfl)) (hw _ (List.mem_of_getElem? (i := 13) rfl)) e3 (g := (mkF m 60 #[.val (.int 2), .val (.int x0), .val (.int x1), .val (.int x2), .val (.ref b1)] [])) rfl (hb hby d1_60) (by decide) (by decide)
  obtain ⟨b4, g4⟩ : ∃ z, z = h3.size := ⟨_, rfl⟩
  have s_b4 : h3.size ≤ b4 := Nat.le_of_eq g4.symm
  have g_b4 : n0 ≤ b4 := Nat.le_trans (Nat.le_trans Z0 K3.1) s_b4
  have sz_b4 : h0.size ≤ b4 := Nat.le_trans K3.1 s_b4
  rw [← g4] at A4 D4 st4
  have K4 : Keep h0 h4 [] := K3.ext E4
  have F_value_b4 : Fld Z h4 b4 "java/lang/String" "value" "[B" .null := D4 (Or.inr (hw _ (List.mem_of_getElem? (i := 27) rfl))) (ty := (.array .byte)) (by decide)
  have F_coder_b4 : Fld Z h4 b4 "java/lang/String" "coder" "B" (.int 0) := D4 (Or.inr (hw _ (List.mem_of_getElem? (i := 28) rfl))) (ty := .byte) (by decide)
  obtain ⟨_, _, ⟨T5, L5, k5, n5⟩, -, X5, ⟨Lc5, hQ5, l5, y5, z5⟩, st5⟩ := X4.specialBack hx (y := (⟨"java/lang/String", "<init>", "([C)V"⟩ : MethodName)) rfl hown (mvT hZ (hw _ (List.mem_of_getElem? (i := 15) rfl))) (mvT hZ (hw _ (List.mem_of_getElem? (i := 16) rfl))) (mvT hZ (hw _ (List.mem_of_getElem? (i := 17) rfl))) (by decide) (backOf (W := 1) (rm2_o1_o2_w2 l Z a0 hw [] b4 b1 k1 x0 x1 w_COMPACT_STRINGS h4 n0 (Nat.le_trans Z0 K4.1) (V3_b1.ext E4) (own_sta_keep S_COMPACT_STRINGS K4) hc30 hhi_x0 hhi_x1 A4 F_coder_b4 g_b4 F_value_b4) hZ (hw _ (List.mem_of_getElem? (i := 17) rfl)) (hw _ (List.mem_of_getElem? (i := 13) rfl)) (by decide) (by decide)) (g := (mkF m 66 #[.val (.int 2), .val (.int x0), .val (.int x1), .val (.int x2), .val (.ref b1)] [(.ref b1), (.ref b4), (.ref b4)])) rfl (by rw [hml]; rfl) (Steps.refl _) (a := b4) (argsL := [(.ref b1)]) (rest := [(.ref b4)]) (lenOf pd___C_V rfl) rfl (by show 2 * 0 + _ ≤ _; exact Nat.le_of_eq rfl) (hb hby d1_66) (fun _ _ => ⟨rfl, e4, (by decide : 2 + 1 ≤ _), (by decide : 6 + 2 ≤ _)⟩)
  dsimp only [Pt.U, Pt.locs, Pt.cells, Pt.slots] at X5 l5 y5 z5 st5 hQ5
  subst l5 y5 z5
  obtain ⟨b5c1, kc5kd2, rfl, N5q, Kq5, s_b5c1, fq5_0, fq5_1, fq5_2, fq5_3⟩ := hQ5
  have N5 := Fr.app N3 N5q
  have g_b5c1 : n0 ≤ b5c1 := Nat.le_trans (Nat.le_trans Z0 K4.1) s_b5c1
  have sz_b5c1 : h0.size ≤ b5c1 := Nat.le_trans K4.1 s_b5c1
  have K5 : Keep h0 T5.heap [] := K4.trans Kq5 (allS (Or.inr sz_b4) all0)
  obtain ⟨fs, hr, hrun, hended, hW, hsame⟩ := X5.leave (v := some (.ref b4)) (fun h => by rw [Bd.returns] at h; cases h)
  refine ⟨_, _, pre0 _ ?_, hrun, hended, _, _, rfl, ?_, ⟨_, rfl⟩, hW, hsame.mono (by decide) (by decide)⟩
  · show Steps p.tables e below (s₁.setTop (mkF m 0 #[.val (.int 2), .val (.int x0), .val (.int x1), .val (.int x2), .unset] [])) _
    refine XS.iloadN X0.here hx rfl (hb hby d1_0) rfl ?_
    show Steps p.tables e below (s₁.setTop (mkF m 1 #[.val (.int 2), .val (.int x0), .val (.int x1), .val (.int x2), .unset] [(.int 2)])) _
    refine XS.ifYes X0.here hx rfl (pc0 := 1) (pc' := 15) rfl (hb hby d1_1) rfl ((if0 _ _).trans (feq (by decide : ¬ ((2 : Int32) = (0 : Int32)))).2) (by decide) (by decide) ?_
    show Steps p.tables e below (s₁.setTop (mkF m 15 #[.val (.int 2), .val (.int x0), .val (.int x1), .val (.int x2), .unset] [])) _
    refine XS.iloadN X0.here hx rfl (hb hby d1_15) rfl ?_
    show Steps p.tables e below (s₁.setTop (mkF m 16 #[.val (.int 2), .val (.int x0), .val (.int x1), .val (.int x2), .unset] [(.int 2)])) _
    refine XS.iconst X0.here hx rfl (hb hby d1_16) ?_
    show Steps p.tables e below (s₁.setTop (mkF m 17 #[.val (.int 2), .val (.int x0), .val (.int x1), .val (.int x2), .unset] [(.int 1), (.int 2)])) _
    refine XS.icmpYes X0.here hx rfl (pc0 := 17) (pc' := 40) rfl (hb hby d1_17) rfl (feq (by decide : ¬ ((2 : Int32) = (1 : Int32)))).2 (by decide) (by decide) ?_
    show Steps p.tables e below (s₁.setTop (mkF m 40 #[.val (.int 2), .val (.int x0), .val (.int x1), .val (.int x2), .unset] [])) _
    refine XS.iloadN X0.here hx rfl (hb hby d1_40) rfl ?_
    show Steps p.tables e below (s₁.setTop (mkF m 41 #[.val (.int 2), .val (.int x0), .val (.int x1), .val (.int x2), .unset] [(.int 2)])) _
    refine XS.iconst X0.here hx rfl (hb hby d1_41) ?_
    show Steps p.tables e below (s₁.setTop (mkF m 42 #[.val (.int 2), .val (.int x0), .val (.int x1), .val (.int x2), .unset] [(.int 2), (.int 2)])) _
    refine XS.icmpNo X0.here hx rfl (hb hby d1_42) rfl (teq (by decide : (2 : Int32) = (2 : Int32))).2 ?_
    show Steps p.tables e below (s₁.setTop (mkF m 45 #[.val (.int 2), .val (.int x0), .val (.int x1), .val (.int x2), .unset] [])) _
    refine XS.iconst X0.here hx rfl (hb hby d1_45) ?_
    show Steps p.tables e below (s₁.setTop (mkF m 46 #[.val (.int 2), .val (.int x0), .val (.int x1), .val (.int x2), .unset] [(.int 2)])) _
    refine st1 _ ?_
    show Steps p.tables e below (T1.setTop (mkF m 48 #[.val (.int 2), .val (.int x0), .val (.int x1), .val (.int x2), .unset] [(.ref b1)])) _
    refine XS.astore X1.here hx rfl (hb hby d1_48) rfl rfl (l' := #[.val (.int 2), .val (.int x0), .val (.int x1), .val (.int x2), .val (.ref b1)]) rfl ?_
    show Steps p.tables e below (T1.setTop (mkF m 50 #[.val (.int 2), .val (.int x0), .val (.int x1), .val (.int x2), .val (.ref b1)] [])) _
    refine XS.aload X1.here hx rfl (hb hby d1_50) rfl rfl ?_
    show Steps p.tables e below (T1.setTop (mkF m 52 #[.val (.int 2), .val (.int x0), .val (.int x1), .val (.int x2), .val (.ref b1)] [(.ref b1)])) _
    refine XS.iconst X1.here hx rfl (hb hby d1_52) ?_
    show Steps p.tables e below (T1.setTop (mkF m 53 #[.val (.int 2), .val (.int x0), .val (.int x1), .val (.int x2), .val (.ref b1)] [(.int 0), (.ref b1)])) _
    refine XS.iloadN X1.here hx rfl (hb hby d1_53) rfl ?_
    show Steps p.tables e below (T1.setTop (mkF m 54 #[.val (.int 2), .val (.int x0), .val (.int x1), .val (.int x2), .val (.ref b1)] [(.int x0), (.int 0), (.ref b1)])) _
    refine st2 _ ?_
    show Steps p.tables e below (T2.setTop (mkF m 55 #[.val (.int 2), .val (.int x0), .val (.int x1), .val (.int x2), .val (.ref b1)] [])) _
    refine XS.aload X2.here hx rfl (hb hby d1_55) rfl rfl ?_
    show Steps p.tables e below (T2.setTop (mkF m 57 #[.val (.int 2), .val (.int x0), .val (.int x1), .val (.int x2), .val (.ref b1)] [(.ref b1)])) _
    refine XS.iconst X2.here hx rfl (hb hby d1_57) ?_
    show Steps p.tables e below (T2.setTop (mkF m 58 #[.val (.int 2), .val (.int x0), .val (.int x1), .val (.int x2), .val (.ref b1)] [(.int 1), (.ref b1)])) _
    refine XS.iloadN X2.here hx rfl (hb hby d1_58) rfl ?_
    show Steps p.tables e below (T2.setTop (mkF m 59 #[.val (.int 2), .val (.int x0), .val (.int x1), .val (.int x2), .val (.ref b1)] [(.int x1), (.int 1), (.ref b1)])) _
    refine st3 _ ?_
    show Steps p.tables e below (T3.setTop (mkF m 60 #[.val (.int 2), .val (.int x0), .val (.int x1), .val (.int x2), .val (.ref b1)] [])) _
    refine st4 _ ?_
    show Steps p.tables e below (T4.setTop (mkF m 63 #[.val (.int 2), .val (.int x0), .val (.int x1), .val (.int x2), .val (.ref b1)] [(.ref b4)])) _
    refine XS.dup X4.here hx rfl (hb hby d1_63) rfl rfl ?_
    show Steps p.tables e below (T4.setTop (mkF m 64 #[.val (.int 2), .val (.int x0), .val (.int x1), .val (.int x2), .val (.ref b1)] [(.ref b4), (.ref b4)])) _
    refine XS.aload X4.here hx rfl (hb hby d1_64) rfl rfl ?_
    show Steps p.tables e below (T4.setTop (mkF m 66 #[.val (.int 2), .val (.int x0), .val (.int x1), .val (.int x2), .val (.ref b1)] [(.ref b1), (.ref b4), (.ref b4)])) _
    refine st5.trans ?_
    show Steps p.tables e below (T5.setTop (mkF m 69 #[.val (.int 2), .val (.int x0), .val (.int x1), .val (.int x2), .val (.ref b1)] [(.ref b4)])) _
    jvm_step X5.here [X5.here.top, hx, (hb hby d1_69), X5.method', Bd.returns, Value.isRef, FieldType.isReference]
    first | (intro acts; rw [hr _ acts rfl rfl rfl]) | rw [hr _ _ rfl rfl rfl]
    exact Steps.refl _
  · show Q1_2_x0_x1_x2_m1_256_m1_256_m1_256 Z x0 x1 x2 w_COMPACT_STRINGS h0 n0 _ T5.heap _
    exact ⟨b4, b5c1, kc5kd2, rfl, N5, K5, sz_b4, sz_b5c1, (Nat.ne_of_lt (Nat.lt_of_lt_of_le (A4).lt s_b5c1)), fq5_0, fq5_1, fq5_2, fq5_3⟩
set_option maxRecDepth 65536 in
set_option maxHeartbeats 40000000 in
theorem pc0_C2 {p : Program} {l : Launch} {e : Env} {s : State} {m : MethodId} {args : Array Value} {below : List Frame} {meth : Method} {c : Code} {T0 : State} {locs : List Loc} {Z : State} {a0 : Array Value} {h0 : Heap} {n0 : Nat} (q1 : Int64) (p2 : Int32) (p3 : Int32) (p4 : Int32) (p5 : Int32) (ord : Int64) (act : Addr) (sc : Int32) (scv : Value) (x0 : Int32) (x1 : Int32) (x2 : Int32) (w_COMPACT_STRINGS : Int32)
    (X0 : Stand p l e room_1 s m args below meth c T0 locs 0 0) (hx : p.tables.exec = Jvm.exec) (hZ : Z.Warmed39 s.vm) (hw : ∀ d ∈ tables_1, d.before a0 Z = true) (hby : c.code = code) (hml : c.maxLocals = 17) (hown : s.vm.findClass "com/example/stanza_filter/stanzafilter/engine/PrivacyItemGroupPinLaw" = some m.cls) (e0 : T0.heap = h0) (Z0 : n0 ≤ h0.size) (N0 : Fr n0 locs) (hln : (((p2.toUInt32 >>> ((4 : Int32) &&& 31).toUInt32).toInt32) &&& (3 : Int32)) = (2 : Int32)) (hx0 : ((p3 &&& (255 : Int32)).toUInt32.toUInt16.toUInt32.toInt32) = x0) (hx1 : ((p4 &&& (255 : Int32)).toUInt32.toUInt16.toUInt32.toInt32) = x1) (hx2 : ((p5 &&& (255 : Int32)).toUInt32.toUInt16.toUInt32.toInt32) = x2) (hlo_x0 : (-1 : Int32) < x0) (hhi_x0 : x0 < (256 : Int32)) (hlo_x1 : (-1 : Int32) < x1) (hhi_x1 : x1 < (256 : Int32)) (S_COMPACT_STRINGS : Sta Z h0 "java/lang/String" "COMPACT_STRINGS" "Z" (.int w_COMPACT_STRINGS)) (hc30 : ¬ (w_COMPACT_STRINGS = (0 : Int32))) :
    ∃ (T' : State) (h' : Heap) (L' : List Loc) (vm' : Vm) (k' : Nat) (b1c1 : Addr), Stand p l e room_1 (s.setVm vm') m args below meth c T' L' 4 10 ∧ T'.heap = h' ∧ Keep h0 h' [] ∧ Fr n0 L' ∧ s.Since vm' k' ∧ k' ≤ h'.size ∧ Z.Warmed39 (s.setVm vm').vm ∧ (s.setVm vm').vm.findClass "com/example/stanza_filter/stanzafilter/engine/PrivacyItemGroupPinLaw" = some m.cls ∧ h0.size ≤ b1c1 ∧ Exa Z h' b1c1 "java/lang/String" ∧ ∀ target, Steps p.tables e below (T'.setTop (mkF m 133 #[.val (.long q1), .second, .val (.int p2), .val (.int p3), .val (.int p4), .val (.int p5), .val (.long ord), .second, .val (.ref act), .val (.int sc), .val scv, .val (.int 2), .val (.int x0), .val (.int x1), .val (.int x2), .val (.ref b1c1), .unset] [])) target → Steps p.tables e below (T0.setTop (mkF m 87 #[.val (.long q1), .second, .val (.int p2), .val (.int p3), .val (.int p4), .val (.int p5), .val (.long ord), .second, .val (.ref act), .val (.int sc), .val scv, .unset, .unset, .unset, .unset, .unset, .unset] [])) target := by
  obtain ⟨_, _, ⟨T1, L1, k1, n1⟩, -, X1, ⟨Lc1, hQ1, l1, y1, z1⟩, st1⟩ := Jvm.LawKit.callS X0 hx (y := (⟨"com/example/stanza_filter/stanzafilter/engine/PrivacyItemGroupPinLaw", "makeString", "(ICCC)Ljava/lang/String;"⟩ : MethodName)) hown (mvT hZ (hw _ (List.mem_of_getElem? (i := 7) rfl))) (mvT hZ (hw _ (List.mem_of_getElem? (i := 8) rfl))) (mvT hZ (hw _ (List.mem_of_getElem? (i := 9) rfl))) (mvT hZ (hw _ (List.mem_of_getElem? (i := 10) rfl))) (by decide) (backOf (W := 0) (rm1_2_x0_x1_x2_m1_256_m1_256_m1_256 l Z a0 hw [] x0 x1 x2 w_COMPACT_STRINGS h0 n0 Z0 hlo_x0 hhi_x0 hlo_x1 hhi_x1 S_COMPACT_STRINGS hc30) hZ (hw _ (List.mem_of_getElem? (i := 10) rfl)) (hw _ (List.mem_of_getElem? (i := 9) rfl)) (by decide) (by decide)) (g := (mkF m 128 #[.val (.long q1), .second, .val (.int p2), .val (.int p3), .val (.int p4), .val (.int p5), .val (.long ord), .second, .val (.ref act), .val (.int sc), .val scv, .val (.int 2), .val (.int x0), .val (.int x1), .val (.int x2), .unset, .unset] [(.int x2), (.int x1), (.int x0), (.int 2)])) rfl (by rw [hml]; rfl) (argsL := [(.int 2), (.int x0), (.int x1), (.int x2)]) (rest := []) (lenOf pd__ICCC_Ljava_lang_String_ rfl) rfl (by show 2 * 0 + _ ≤ _; exact Nat.le_of_eq rfl) (hb hby at_128) (fun _ _ => ⟨rfl, e0, (by decide : 0 + 3 ≤ _), (by decide : 0 + 8 ≤ _)⟩)
  dsimp only [Pt.U, Pt.locs, Pt.cells, Pt.slots] at X1 l1 y1 z1 st1 hQ1
  subst l1 y1 z1
  obtain ⟨b1c1, b1c2, kc1kd3, rfl, N1q, Kq1, s_b1c1, s_b1c2, nq_b1c1_b1c2, fq1_0, fq1_1, fq1_2, fq1_3⟩ := hQ1
  have N1 := Fr.app N0 N1q
  have g_b1c1 : n0 ≤ b1c1 := Nat.le_trans Z0 s_b1c1
  have sz_b1c1 : h0.size ≤ b1c1 := s_b1c1
  have g_b1c2 : n0 ≤ b1c2 := Nat.le_trans Z0 s_b1c2
  have sz_b1c2 : h0.size ≤ b1c2 := s_b1c2
  have K1 : Keep h0 T1.heap [] := (Keep.refl h0 []).trans Kq1 all0
  have hZ2 : Z.Warmed39 T1.vm := wtrans hZ X1.warmed
  have hown2 : T1.vm.findClass "com/example/stanza_filter/stanzafilter/engine/PrivacyItemGroupPinLaw" = some m.cls := by rw [X1.warmed.alike.findClass]; exact hown
  have hS2 : s.Since T1.vm T1.heap.size := X1.warmed.since _
  have hk2 : T1.heap.size ≤ T1.heap.size := own_geT rfl
  have XR2 : Stand p l e _ (s.setVm T1.vm) m _ below meth c T1 _ _ _ := X1.retabled X1.warmed.wide
  refine ⟨T1, _, _, _, _, b1c1, (XR2.mono (by decide) (by decide)), rfl, K1, N1, hS2, hk2, hZ2, hown2, sz_b1c1, fq1_0, fun target kt => ?_⟩
  show Steps p.tables e below (T0.setTop (mkF m 87 #[.val (.long q1), .second, .val (.int p2), .val (.int p3), .val (.int p4), .val (.int p5), .val (.long ord), .second, .val (.ref act), .val (.int sc), .val scv, .unset, .unset, .unset, .unset, .unset, .unset] [])) _
  refine XS.iloadN X0.here hx rfl (hb hby at_87) rfl ?_
  show Steps p.tables e below (T0.setTop (mkF m 88 #[.val (.long q1), .second, .val (.int p2), .val (.int p3), .val (.int p4), .val (.int p5), .val (.long ord), .second, .val (.ref act), .val (.int sc), .val scv, .unset, .unset, .unset, .unset, .unset, .unset] [(.int p2)])) _
  refine XS.iconst X0.here hx rfl (hb hby at_88) ?_
  show Steps p.tables e below (T0.setTop (mkF m 89 #[.val (.long q1), .second, .val (.int p2), .val (.int p3), .val (.int p4), .val (.int p5), .val (.long ord), .second, .val (.ref act), .val (.int sc), .val scv, .unset, .unset, .unset, .unset, .unset, .unset] [(.int 4), (.int p2)])) _
  refine XS.iushr X0.here hx rfl (hb hby at_89) rfl ?_
  show Steps p.tables e below (T0.setTop (mkF m 90 #[.val (.long q1), .second, .val (.int p2), .val (.int p3), .val (.int p4), .val (.int p5), .val (.long ord), .second, .val (.ref act), .val (.int sc), .val scv, .unset, .unset, .unset, .unset, .unset, .unset] [(.int ((p2.toUInt32 >>> ((4 : Int32) &&& 31).toUInt32).toInt32))])) _
  refine XS.iconst X0.here hx rfl (hb hby at_90) ?_
  show Steps p.tables e below (T0.setTop (mkF m 91 #[.val (.long q1), .second, .val (.int p2), .val (.int p3), .val (.int p4), .val (.int p5), .val (.long ord), .second, .val (.ref act), .val (.int sc), .val scv, .unset, .unset, .unset, .unset, .unset, .unset] [(.int 3), (.int ((p2.toUInt32 >>> ((4 : Int32) &&& 31).toUInt32).toInt32))])) _
  refine XS.iand X0.here hx rfl (hb hby at_91) rfl ?_
  show Steps p.tables e below (T0.setTop (mkF m 92 #[.val (.long q1), .second, .val (.int p2), .val (.int p3), .val (.int p4), .val (.int p5), .val (.long ord), .second, .val (.ref act), .val (.int sc), .val scv, .unset, .unset, .unset, .unset, .unset, .unset] [(.int (((p2.toUInt32 >>> ((4 : Int32) &&& 31).toUInt32).toInt32) &&& (3 : Int32)))])) _
  rw [hln]
  show Steps p.tables e below (T0.setTop (mkF m 92 #[.val (.long q1), .second, .val (.int p2), .val (.int p3), .val (.int p4), .val (.int p5), .val (.long ord), .second, .val (.ref act), .val (.int sc), .val scv, .unset, .unset, .unset, .unset, .unset, .unset] [(.int 2)])) _
  refine XS.istore X0.here hx rfl (hb hby at_92) rfl (l' := #[.val (.long q1), .second, .val (.int p2), .val (.int p3), .val (.int p4), .val (.int p5), .val (.long ord), .second, .val (.ref act), .val (.int sc), .val scv, .val (.int 2), .unset, .unset, .unset, .unset, .unset]) rfl ?_
  show Steps p.tables e below (T0.setTop (mkF m 94 #[.val (.long q1), .second, .val (.int p2), .val (.int p3), .val (.int p4), .val (.int p5), .val (.long ord), .second, .val (.ref act), .val (.int sc), .val scv, .val (.int 2), .unset, .unset, .unset, .unset, .unset] [])) _
  refine XS.iloadN X0.here hx rfl (hb hby at_94) rfl ?_
  show Steps p.tables e below (T0.setTop (mkF m 95 #[.val (.long q1), .second, .val (.int p2), .val (.int p3), .val (.int p4), .val (.int p5), .val (.long ord), .second, .val (.ref act), .val (.int sc), .val scv, .val (.int 2), .unset, .unset, .unset, .unset, .unset] [(.int p3)])) _
  refine XS.sipush X0.here hx rfl (hb hby at_95) ?_
  show Steps p.tables e below (T0.setTop (mkF m 98 #[.val (.long q1), .second, .val (.int p2), .val (.int p3), .val (.int p4), .val (.int p5), .val (.long ord), .second, .val (.ref act), .val (.int sc), .val scv, .val (.int 2), .unset, .unset, .unset, .unset, .unset] [(.int 255), (.int p3)])) _
  refine XS.iand X0.here hx rfl (hb hby at_98) rfl ?_
  show Steps p.tables e below (T0.setTop (mkF m 99 #[.val (.long q1), .second, .val (.int p2), .val (.int p3), .val (.int p4), .val (.int p5), .val (.long ord), .second, .val (.ref act), .val (.int sc), .val scv, .val (.int 2), .unset, .unset, .unset, .unset, .unset] [(.int (p3 &&& (255 : Int32)))])) _
  refine XS.i2c X0.here hx rfl (hb hby at_99) rfl ?_
  show Steps p.tables e below (T0.setTop (mkF m 100 #[.val (.long q1), .second, .val (.int p2), .val (.int p3), .val (.int p4), .val (.int p5), .val (.long ord), .second, .val (.ref act), .val (.int sc), .val scv, .val (.int 2), .unset, .unset, .unset, .unset, .unset] [(.int ((p3 &&& (255 : Int32)).toUInt32.toUInt16.toUInt32.toInt32))])) _
  rw [hx0]
  show Steps p.tables e below (T0.setTop (mkF m 100 #[.val (.long q1), .second, .val (.int p2), .val (.int p3), .val (.int p4), .val (.int p5), .val (.long ord), .second, .val (.ref act), .val (.int sc), .val scv, .val (.int 2), .unset, .unset, .unset, .unset, .unset] [(.int x0)])) _
  refine XS.istore X0.here hx rfl (hb hby at_100) rfl (l' := #[.val (.long q1), .second, .val (.int p2), .val (.int p3), .val (.int p4), .val (.int p5), .val (.long ord), .second, .val (.ref act), .val (.int sc), .val scv, .val (.int 2), .val (.int x0), .unset, .unset, .unset, .unset]) rfl ?_
  show Steps p.tables e below (T0.setTop (mkF m 102 #[.val (.long q1), .second, .val (.int p2), .val (.int p3), .val (.int p4), .val (.int p5), .val (.long ord), .second, .val (.ref act), .val (.int sc), .val scv, .val (.int 2), .val (.int x0), .unset, .unset, .unset, .unset] [])) _
  refine XS.iload X0.here hx rfl (hb hby at_102) rfl ?_
  show Steps p.tables e below (T0.setTop (mkF m 104 #[.val (.long q1), .second, .val (.int p2), .val (.int p3), .val (.int p4), .val (.int p5), .val (.long ord), .second, .val (.ref act), .val (.int sc), .val scv, .val (.int 2), .val (.int x0), .unset, .unset, .unset, .unset] [(.int p4)])) _
  refine XS.sipush X0.here hx rfl (hb hby at_104) ?_
  show Steps p.tables e below (T0.setTop (mkF m 107 #[.val (.long q1), .second, .val (.int p2), .val (.int p3), .val (.int p4), .val (.int p5), .val (.long ord), .second, .val (.ref act), .val (.int sc), .val scv, .val (.int 2), .val (.int x0), .unset, .unset, .unset, .unset] [(.int 255), (.int p4)])) _
  refine XS.iand X0.here hx rfl (hb hby at_107) rfl ?_
  show Steps p.tables e below (T0.setTop (mkF m 108 #[.val (.long q1), .second, .val (.int p2), .val (.int p3), .val (.int p4), .val (.int p5), .val (.long ord), .second, .val (.ref act), .val (.int sc), .val scv, .val (.int 2), .val (.int x0), .unset, .unset, .unset, .unset] [(.int (p4 &&& (255 : Int32)))])) _
  refine XS.i2c X0.here hx rfl (hb hby at_108) rfl ?_
  show Steps p.tables e below (T0.setTop (mkF m 109 #[.val (.long q1), .second, .val (.int p2), .val (.int p3), .val (.int p4), .val (.int p5), .val (.long ord), .second, .val (.ref act), .val (.int sc), .val scv, .val (.int 2), .val (.int x0), .unset, .unset, .unset, .unset] [(.int ((p4 &&& (255 : Int32)).toUInt32.toUInt16.toUInt32.toInt32))])) _
  rw [hx1]
  show Steps p.tables e below (T0.setTop (mkF m 109 #[.val (.long q1), .second, .val (.int p2), .val (.int p3), .val (.int p4), .val (.int p5), .val (.long ord), .second, .val (.ref act), .val (.int sc), .val scv, .val (.int 2), .val (.int x0), .unset, .unset, .unset, .unset] [(.int x1)])) _
  refine XS.istore X0.here hx rfl (hb hby at_109) rfl (l' := #[.val (.long q1), .second, .val (.int p2), .val (.int p3), .val (.int p4), .val (.int p5), .val (.long ord), .second, .val (.ref act), .val (.int sc), .val scv, .val (.int 2), .val (.int x0), .val (.int x1), .unset, .unset, .unset]) rfl ?_
  show Steps p.tables e below (T0.setTop (mkF m 111 #[.val (.long q1), .second, .val (.int p2), .val (.int p3), .val (.int p4), .val (.int p5), .val (.long ord), .second, .val (.ref act), .val (.int sc), .val scv, .val (.int 2), .val (.int x0), .val (.int x1), .unset, .unset, .unset] [])) _
  refine XS.iload X0.here hx rfl (hb hby at_111) rfl ?_
  show Steps p.tables e below (T0.setTop (mkF m 113 #[.val (.long q1), .second, .val (.int p2), .val (.int p3), .val (.int p4), .val (.int p5), .val (.long ord), .second, .val (.ref act), .val (.int sc), .val scv, .val (.int 2), .val (.int x0), .val (.int x1), .unset, .unset, .unset] [(.int p5)])) _
  refine XS.sipush X0.here hx rfl (hb hby at_113) ?_
  show Steps p.tables e below (T0.setTop (mkF m 116 #[.val (.long q1), .second, .val (.int p2), .val (.int p3), .val (.int p4), .val (.int p5), .val (.long ord), .second, .val (.ref act), .val (.int sc), .val scv, .val (.int 2), .val (.int x0), .val (.int x1), .unset, .unset, .unset] [(.int 255), (.int p5)])) _
  refine XS.iand X0.here hx rfl (hb hby at_116) rfl ?_
  show Steps p.tables e below (T0.setTop (mkF m 117 #[.val (.long q1), .second, .val (.int p2), .val (.int p3), .val (.int p4), .val (.int p5), .val (.long ord), .second, .val (.ref act), .val (.int sc), .val scv, .val (.int 2), .val (.int x0), .val (.int x1), .unset, .unset, .unset] [(.int (p5 &&& (255 : Int32)))])) _
  refine XS.i2c X0.here hx rfl (hb hby at_117) rfl ?_
  show Steps p.tables e below (T0.setTop (mkF m 118 #[.val (.long q1), .second, .val (.int p2), .val (.int p3), .val (.int p4), .val (.int p5), .val (.long ord), .second, .val (.ref act), .val (.int sc), .val scv, .val (.int 2), .val (.int x0), .val (.int x1), .unset, .unset, .unset] [(.int ((p5 &&& (255 : Int32)).toUInt32.toUInt16.toUInt32.toInt32))])) _
  rw [hx2]
  show Steps p.tables e below (T0.setTop (mkF m 118 #[.val (.long q1), .second, .val (.int p2), .val (.int p3), .val (.int p4), .val (.int p5), .val (.long ord), .second, .val (.ref act), .val (.int sc), .val scv, .val (.int 2), .val (.int x0), .val (.int x1), .unset, .unset, .unset] [(.int x2)])) _
  refine XS.istore X0.here hx rfl (hb hby at_118) rfl (l' := #[.val (.long q1), .second, .val (.int p2), .val (.int p3), .val (.int p4), .val (.int p5), .val (.long ord), .second, .val (.ref act), .val (.int sc), .val scv, .val (.int 2), .val (.int x0), .val (.int x1), .val (.int x2), .unset, .unset]) rfl ?_
  show Steps p.tables e below (T0.setTop (mkF m 120 #[.val (.long q1), .second, .val (.int p2), .val (.int p3), .val (.int p4), .val (.int p5), .val (.long ord), .second, .val (.ref act), .val (.int sc), .val scv, .val (.int 2), .val (.int x0), .val (.int x1), .val (.int x2), .unset, .unset] [])) _
  refine XS.iload X0.here hx rfl (hb hby at_120) rfl ?_
  show Steps p.tables e below (T0.setTop (mkF m 122 #[.val (.long q1), .second, .val (.int p2), .val (.int p3), .val (.int p4), .val (.int p5), .val (.long ord), .second, .val (.ref act), .val (.int sc), .val scv, .val (.int 2), .val (.int x0), .val (.int x1), .val (.int x2), .unset, .unset] [(.int 2)])) _
  refine XS.iload X0.here hx rfl (hb hby at_122) rfl ?_
  show Steps p.tables e below (T0.setTop (mkF m 124 #[.val (.long q1), .second, .val (.int p2), .val (.int p3), .val (.int p4), .val (.int p5), .val (.long ord), .second, .val (.ref act), .val (.int sc), .val scv, .val (.int 2), .val (.int x0), .val (.int x1), .val (.int x2), .unset, .unset] [(.int x0), (.int 2)])) _
  refine XS.iload X0.here hx rfl (hb hby at_124) rfl ?_
  show Steps p.tables e below (T0.setTop (mkF m 126 #[.val (.long q1), .second, .val (.int p2), .val (.int p3), .val (.int p4), .val (.int p5), .val (.long ord), .second, .val (.ref act), .val (.int sc), .val scv, .val (.int 2), .val (.int x0), .val (.int x1), .val (.int x2), .unset, .unset] [(.int x1), (.int x0), (.int 2)])) _
  refine XS.iload X0.here hx rfl (hb hby at_126) rfl ?_
  show Steps p.tables e below (T0.setTop (mkF m 128 #[.val (.long q1), .second, .val (.int p2), .val (.int p3), .val (.int p4), .val (.int p5), .val (.long ord), .second, .val (.ref act), .val (.int sc), .val scv, .val (.int 2), .val (.int x0), .val (.int x1), .val (.int x2), .unset, .unset] [(.int x2), (.int x1), (.int x0), (.int 2)])) _
  refine st1 _ ?_
  show Steps p.tables e below (T1.setTop (mkF m 131 #[.val (.long q1), .second, .val (.int p2), .val (.int p3), .val (.int p4), .val (.int p5), .val (.long ord), .second, .val (.ref act), .val (.int sc), .val scv, .val (.int 2), .val (.int x0), .val (.int x1), .val (.int x2), .unset, .unset] [(.ref b1c1)])) _
  refine XS.astore X1.here hx rfl (hb hby at_131) rfl rfl (l' := #[.val (.long q1), .second, .val (.int p2), .val (.int p3), .val (.int p4), .val (.int p5), .val (.long ord), .second, .val (.ref act), .val (.int sc), .val scv, .val (.int 2), .val (.int x0), .val (.int x1), .val (.int x2), .val (.ref b1c1), .unset]) rfl ?_
  show Steps p.tables e below (T1.setTop (mkF m 133 #[.val (.long q1), .second, .val (.int p2), .val (.int p3), .val (.int p4), .val (.int p5), .val (.long ord), .second, .val (.ref act), .val (.int sc), .val scv, .val (.int 2), .val (.int x0), .val (.int x1), .val (.int x2), .val (.ref b1c1), .unset] [])) _
  exact kt
def Q19_o1_0_o2_0_3 (Z : State) (o1 : Addr) (o2 : Addr) (kk_o1 : ClassId) (x0 : Int32) (x1 : Int32) (x2 : Int32) (kk_o2 : ClassId) (h0 : Heap) (n0 : Nat) (v : Option Value) (h : Heap) (L : List Loc) : Prop := v = some (.int 3) ∧ Fr n0 L ∧ Keep h0 h [o2] ∧ Arv Z h o2 kk_o2 .byte (3 : Int32) [(.int (nar .byte (x0.toInt8.toInt32))), (.int (nar .byte (x1.toInt8.toInt32))), (.int (nar .byte (x2.toInt8.toInt32)))] (.int (0 : Int32))
set_option maxRecDepth 65536 in
set_option maxHeartbeats 40000000 in
theorem rm19_o1_0_o2_0_3 (l : Launch) (Z : State) (a0 : Array Value) (hw : ∀ d ∈ tables_1, d.before a0 Z = true) (ws : List Jvm.Cond) (o1 : Addr) (o2 : Addr) (kk_o1 : ClassId) (x0 : Int32) (x1 : Int32) (x2 : Int32) (kk_o2 : ClassId) (h0 : Heap) (n0 : Nat) (Z0 : n0 ≤ h0.size) (V_o1 : Arv Z h0 o1 kk_o1 .char (3 : Int32) [(.int x0), (.int x1), (.int x2)] (.int (0 : Int32))) (hhi_x0 : x0 < (256 : Int32)) (V_o2 : Arv Z h0 o2 kk_o2 .byte (3 : Int32) [(.int 0), (.int 0), (.int 0)] (.int (0 : Int32))) (g_o2 : n0 ≤ o2) (n_o1_o2 : ¬ (o1 = o2)) (hhi_x1 : x1 < (256 : Int32)) (hhi_x2 : x2 < (256 : Int32)) :
    MetFree l (⟨"java/lang/StringUTF16", "compress", "([CI[BII)I"⟩ : MethodName) (head1 (Jvm.Cond.code (⟨"java/lang/StringUTF16", "compress", "([CI[BII)I"⟩ : MethodName) jdk_52_method_21_code 7 (some .int) :: ws) ({ frames := 0, cells := 0, slots := 0, locals := 0 } : Room)) (fun a U => a = #[(.ref o1), (.int 0), (.ref o2), (.int 0), (.int 3)] ∧ Z.Warmed39 U.vm ∧ U.heap = h0) (fun _ _ _ _ _ => True) (fun _ U o U' => ∃ v L, o = .returned v ∧ Q19_o1_0_o2_0_3 Z o1 o2 kk_o1 x0 x1 x2 kk_o2 h0 n0 v U'.heap L ∧ FrameEnd U o U' L ({ frames := 0, cells := 0, slots := 0, locals := 0 } : Room).cells ({ frames := 0, cells := 0, slots := 0, locals := 0 } : Room).slots) := by
  refine MetFree.of_bodySF (plainFor_of_name pn_19) hisR ?_
  intro p e s m args below meth c s₁ Bd hml0 hP hK
  obtain ⟨rfl, hZ, hh⟩ := hP
  have hx := Bd.exec
  have hby := Bd.bytes
  have hml : c.maxLocals = 7 := hml0
  have hown : s.vm.findClass "java/lang/StringUTF16" = some m.cls := findClass_of_methodNamed Bd.named
  have hnm := (name_of_methodNamed Bd.named Bd.method).1
  have X0 : Stand p l e ({ frames := 0, cells := 0, slots := 0, locals := 0 } : Room) s m #[(.ref o1), (.int 0), (.ref o2), (.int 0), (.int 3)] below meth c s₁ [] 0 0 := Stand.of_body Bd
  have e0 : s₁.heap = h0 := by rw [← hh, Bd.state]; rfl
  have N0 := Fr.nil n0
  have pre0 : ∀ t, Steps p.tables e below (s₁.setTop (mkF m 0 #[.val (.ref o1), .val (.int 0), .val (.ref o2), .val (.int 0), .val (.int 3), .unset, .unset] [])) t → Steps p.tables e below (s₁.setTop (entryFrame m #[(.ref o1), (.int 0), (.ref o2), (.int 0), (.int 3)] 7)) t := fun t k => castTop (by first | (simp [entryFrame, mkF, argsToLocals, Value.category]; done) | rfl) k
  obtain ⟨T1, h1, X1, e1, W1, Vw1, st1⟩ := own_stB X0 hx hZ e0 V_o2 0 rfl ⟨by decide, by decide⟩ (Nat.le_of_ble_eq_true rfl) (g := (mkF m 31 #[.val (.ref o1), .val (.int 0), .val (.ref o2), .val (.int 0), .val (.int 3), .val (.int 0), .val (.int x0)] [(.int (x0.toInt8.toInt32)), (.int 0), (.ref o2)])) rfl rfl (hb hby d19_31)
  have N1 := Fr.snoc X1 N0 g_o2
  have K1 : Keep h0 h1 [o2] := (Keep.refl h0 [o2]).wr W1 (Or.inl (List.mem_of_getElem? (i := 0) rfl))
  have V1_o2 : Arv Z h1 o2 kk_o2 .byte (3 : Int32) [(.int (nar .byte (x0.toInt8.toInt32))), (.int 0), (.int 0)] (.int (0 : Int32)) := Vw1
  obtain ⟨T2, h2, X2, e2, W2, Vw2, st2⟩ := own_stB X1 hx hZ e1 V1_o2 1 rfl ⟨by decide, by decide⟩ (Nat.le_of_ble_eq_true rfl) (g := (mkF m 31 #[.val (.ref o1), .val (.int 1), .val (.ref o2), .val (.int 1), .val (.int 3), .val (.int 1), .val (.int x1)] [(.int (x1.toInt8.toInt32)), (.int 1), (.ref o2)])) rfl rfl (hb hby d19_31)
  have N2 := Fr.snoc X2 N1 g_o2
  have K2 : Keep h0 h2 [o2] := K1.wr W2 (Or.inl (List.mem_of_getElem? (i := 0) rfl))
  have V2_o2 : Arv Z h2 o2 kk_o2 .byte (3 : Int32) [(.int (nar .byte (x0.toInt8.toInt32))), (.int (nar .byte (x1.toInt8.toInt32))), (.int 0)] (.int (0 : Int32)) := Vw2
  obtain ⟨T3, h3, X3, e3, W3, Vw3, st3⟩ := own_stB X2 hx hZ e2 V2_o2 2 rfl ⟨by decide, by decide⟩ (Nat.le_of_ble_eq_true rfl) (g := (mkF m 31 #[.val (.ref o1), .val (.int 2), .val (.ref o2), .val (.int 2), .val (.int 3), .val (.int 2), .val (.int x2)] [(.int (x2.toInt8.toInt32)), (.int 2), (.ref o2)])) rfl rfl (hb hby d19_31)
  have N3 := Fr.snoc X3 N2 g_o2
  have K3 : Keep h0 h3 [o2] := K2.wr W3 (Or.inl (List.mem_of_getElem? (i := 0) rfl))
  have V3_o2 : Arv Z h3 o2 kk_o2 .byte (3 : Int32) [(.int (nar .byte (x0.toInt8.toInt32))), (.int (nar .byte (x1.toInt8.toInt32))), (.int (nar .byte (x2.toInt8.toInt32)))] (.int (0 : Int32)) := Vw3
  obtain ⟨fs, hr, hrun, hended, hW, hsame⟩ := X3.leave (v := some (.int 3)) (fun h => by rw [Bd.returns] at h; cases h)
  refine ⟨_, _, pre0 _ ?_, hrun, hended, _, _, rfl, ?_, ⟨_, rfl⟩, hW, hsame.mono (by decide) (by decide)⟩
  · show Steps p.tables e below (s₁.setTop (mkF m 0 #[.val (.ref o1), .val (.int 0), .val (.ref o2), .val (.int 0), .val (.int 3), .unset, .unset] [])) _
    refine XS.iconst X0.here hx rfl (hb hby d19_0) ?_
    show Steps p.tables e below (s₁.setTop (mkF m 1 #[.val (.ref o1), .val (.int 0), .val (.ref o2), .val (.int 0), .val (.int 3), .unset, .unset] [(.int 0)])) _
    refine XS.istore X0.here hx rfl (hb hby d19_1) rfl (l' := #[.val (.ref o1), .val (.int 0), .val (.ref o2), .val (.int 0), .val (.int 3), .val (.int 0), .unset]) rfl ?_
    show Steps p.tables e below (s₁.setTop (mkF m 3 #[.val (.ref o1), .val (.int 0), .val (.ref o2), .val (.int 0), .val (.int 3), .val (.int 0), .unset] [])) _
    refine XS.iload X0.here hx rfl (hb hby d19_3) rfl ?_
    show Steps p.tables e below (s₁.setTop (mkF m 5 #[.val (.ref o1), .val (.int 0), .val (.ref o2), .val (.int 0), .val (.int 3), .val (.int 0), .unset] [(.int 0)])) _
    refine XS.iload X0.here hx rfl (hb hby d19_5) rfl ?_
    show Steps p.tables e below (s₁.setTop (mkF m 7 #[.val (.ref o1), .val (.int 0), .val (.ref o2), .val (.int 0), .val (.int 3), .val (.int 0), .unset] [(.int 3), (.int 0)])) _
    refine XS.icmpNo X0.here hx rfl (hb hby d19_7) rfl (tlt (by decide : (0 : Int32) < (3 : Int32))).2.1 ?_
    show Steps p.tables e below (s₁.setTop (mkF m 10 #[.val (.ref o1), .val (.int 0), .val (.ref o2), .val (.int 0), .val (.int 3), .val (.int 0), .unset] [])) _
    refine XS.aloadN X0.here hx rfl (hb hby d19_10) rfl rfl ?_
    show Steps p.tables e below (s₁.setTop (mkF m 11 #[.val (.ref o1), .val (.int 0), .val (.ref o2), .val (.int 0), .val (.int 3), .val (.int 0), .unset] [(.ref o1)])) _
    refine XS.iloadN X0.here hx rfl (hb hby d19_11) rfl ?_
    show Steps p.tables e below (s₁.setTop (mkF m 12 #[.val (.ref o1), .val (.int 0), .val (.ref o2), .val (.int 0), .val (.int 3), .val (.int 0), .unset] [(.int 0), (.ref o1)])) _
    refine own_ldC X0 hx hZ e0 V_o1 (j := (0 : Int32)) ⟨by decide, by decide⟩ rfl (g := (mkF m 12 #[.val (.ref o1), .val (.int 0), .val (.ref o2), .val (.int 0), .val (.int 3), .val (.int 0), .unset] [(.int 0), (.ref o1)])) rfl rfl (hb hby d19_12) _ ?_
    show Steps p.tables e below (s₁.setTop (mkF m 13 #[.val (.ref o1), .val (.int 0), .val (.ref o2), .val (.int 0), .val (.int 3), .val (.int 0), .unset] [(.int x0)])) _
    refine XS.istore X0.here hx rfl (hb hby d19_13) rfl (l' := #[.val (.ref o1), .val (.int 0), .val (.ref o2), .val (.int 0), .val (.int 3), .val (.int 0), .val (.int x0)]) rfl ?_
    show Steps p.tables e below (s₁.setTop (mkF m 15 #[.val (.ref o1), .val (.int 0), .val (.ref o2), .val (.int 0), .val (.int 3), .val (.int 0), .val (.int x0)] [])) _
    refine XS.iload X0.here hx rfl (hb hby d19_15) rfl ?_
    show Steps p.tables e below (s₁.setTop (mkF m 17 #[.val (.ref o1), .val (.int 0), .val (.ref o2), .val (.int 0), .val (.int 3), .val (.int 0), .val (.int x0)] [(.int x0)])) _
    refine XS.sipush X0.here hx rfl (hb hby d19_17) ?_
    show Steps p.tables e below (s₁.setTop (mkF m 20 #[.val (.ref o1), .val (.int 0), .val (.ref o2), .val (.int 0), .val (.int 3), .val (.int 0), .val (.int x0)] [(.int 255), (.int x0)])) _
    refine XS.icmpYes X0.here hx rfl (pc0 := 20) (pc' := 26) rfl (hb hby d19_20) rfl (flt (own_ngt hhi_x0 (by decide) : ¬ ((255 : Int32) < x0))).2.2.2 (by decide) (by decide) ?_
    show Steps p.tables e below (s₁.setTop (mkF m 26 #[.val (.ref o1), .val (.int 0), .val (.ref o2), .val (.int 0), .val (.int 3), .val (.int 0), .val (.int x0)] [])) _
    refine XS.aloadN X0.here hx rfl (hb hby d19_26) rfl rfl ?_
    show Steps p.tables e below (s₁.setTop (mkF m 27 #[.val (.ref o1), .val (.int 0), .val (.ref o2), .val (.int 0), .val (.int 3), .val (.int 0), .val (.int x0)] [(.ref o2)])) _
    refine XS.iloadN X0.here hx rfl (hb hby d19_27) rfl ?_
    show Steps p.tables e below (s₁.setTop (mkF m 28 #[.val (.ref o1), .val (.int 0), .val (.ref o2), .val (.int 0), .val (.int 3), .val (.int 0), .val (.int x0)] [(.int 0), (.ref o2)])) _
    refine XS.iload X0.here hx rfl (hb hby d19_28) rfl ?_
    show Steps p.tables e below (s₁.setTop (mkF m 30 #[.val (.ref o1), .val (.int 0), .val (.ref o2), .val (.int 0), .val (.int 3), .val (.int 0), .val (.int x0)] [(.int x0), (.int 0), (.ref o2)])) _
    refine XS.i2b X0.here hx rfl (hb hby d19_30) rfl ?_
    show Steps p.tables e below (s₁.setTop (mkF m 31 #[.val (.ref o1), .val (.int 0), .val (.ref o2), .val (.int 0), .val (.int 3), .val (.int 0), .val (.int x0)] [(.int (x0.toInt8.toInt32)), (.int 0), (.ref o2)])) _
    refine st1 _ ?_
    show Steps p.tables e below (T1.setTop (mkF m 32 #[.val (.ref o1), .val (.int 0), .val (.ref o2), .val (.int 0), .val (.int 3), .val (.int 0), .val (.int x0)] [])) _
    refine XS.iinc X1.here hx rfl (hb hby d19_32) rfl (l' := #[.val (.ref o1), .val (.int ((0 : Int32) + (1 : Int32))), .val (.ref o2), .val (.int 0), .val (.int 3), .val (.int 0), .val (.int x0)]) rfl ?_
    show Steps p.tables e below (T1.setTop (mkF m 35 #[.val (.ref o1), .val (.int ((0 : Int32) + (1 : Int32))), .val (.ref o2), .val (.int 0), .val (.int 3), .val (.int 0), .val (.int x0)] [])) _
    rw [(by decide : ((0 : Int32) + (1 : Int32)) = (1 : Int32))]
    show Steps p.tables e below (T1.setTop (mkF m 35 #[.val (.ref o1), .val (.int 1), .val (.ref o2), .val (.int 0), .val (.int 3), .val (.int 0), .val (.int x0)] [])) _
    refine XS.iinc X1.here hx rfl (hb hby d19_35) rfl (l' := #[.val (.ref o1), .val (.int 1), .val (.ref o2), .val (.int ((0 : Int32) + (1 : Int32))), .val (.int 3), .val (.int 0), .val (.int x0)]) rfl ?_
    show Steps p.tables e below (T1.setTop (mkF m 38 #[.val (.ref o1), .val (.int 1), .val (.ref o2), .val (.int ((0 : Int32) + (1 : Int32))), .val (.int 3), .val (.int 0), .val (.int x0)] [])) _
    rw [(by decide : ((0 : Int32) + (1 : Int32)) = (1 : Int32))]
    show Steps p.tables e below (T1.setTop (mkF m 38 #[.val (.ref o1), .val (.int 1), .val (.ref o2), .val (.int 1), .val (.int 3), .val (.int 0), .val (.int x0)] [])) _
    refine XS.iinc X1.here hx rfl (hb hby d19_38) rfl (l' := #[.val (.ref o1), .val (.int 1), .val (.ref o2), .val (.int 1), .val (.int 3), .val (.int ((0 : Int32) + (1 : Int32))), .val (.int x0)]) rfl ?_
    show Steps p.tables e below (T1.setTop (mkF m 41 #[.val (.ref o1), .val (.int 1), .val (.ref o2), .val (.int 1), .val (.int 3), .val (.int ((0 : Int32) + (1 : Int32))), .val (.int x0)] [])) _
    rw [(by decide : ((0 : Int32) + (1 : Int32)) = (1 : Int32))]
    show Steps p.tables e below (T1.setTop (mkF m 41 #[.val (.ref o1), .val (.int 1), .val (.ref o2), .val (.int 1), .val (.int 3), .val (.int 1), .val (.int x0)] [])) _
    refine XS.goto X1.here hx rfl (pc0 := 41) (pc' := 3) rfl (hb hby d19_41) (by decide) (by decide) ?_
    show Steps p.tables e below (T1.setTop (mkF m 3 #[.val (.ref o1), .val (.int 1), .val (.ref o2), .val (.int 1), .val (.int 3), .val (.int 1), .val (.int x0)] [])) _
    refine XS.iload X1.here hx rfl (hb hby d19_3) rfl ?_
    show Steps p.tables e below (T1.setTop (mkF m 5 #[.val (.ref o1), .val (.int 1), .val (.ref o2), .val (.int 1), .val (.int 3), .val (.int 1), .val (.int x0)] [(.int 1)])) _
    refine XS.iload X1.here hx rfl (hb hby d19_5) rfl ?_
    show Steps p.tables e below (T1.setTop (mkF m 7 #[.val (.ref o1), .val (.int 1), .val (.ref o2), .val (.int 1), .val (.int 3), .val (.int 1), .val (.int x0)] [(.int 3), (.int 1)])) _
    refine XS.icmpNo X1.here hx rfl (hb hby d19_7) rfl (tlt (by decide : (1 : Int32) < (3 : Int32))).2.1 ?_
    show Steps p.tables e below (T1.setTop (mkF m 10 #[.val (.ref o1), .val (.int 1), .val (.ref o2), .val (.int 1), .val (.int 3), .val (.int 1), .val (.int x0)] [])) _
    refine XS.aloadN X1.here hx rfl (hb hby d19_10) rfl rfl ?_
    show Steps p.tables e below (T1.setTop (mkF m 11 #[.val (.ref o1), .val (.int 1), .val (.ref o2), .val (.int 1), .val (.int 3), .val (.int 1), .val (.int x0)] [(.ref o1)])) _
    refine XS.iloadN X1.here hx rfl (hb hby d19_11) rfl ?_
    show Steps p.tables e below (T1.setTop (mkF m 12 #[.val (.ref o1), .val (.int 1), .val (.ref o2), .val (.int 1), .val (.int 3), .val (.int 1), .val (.int x0)] [(.int 1), (.ref o1)])) _
    refine own_ldC X1 hx hZ e1 (V_o1.other W1 n_o1_o2) (j := (1 : Int32)) ⟨by decide, by decide⟩ rfl (g := (mkF m 12 #[.val (.ref o1), .val (.int 1), .val (.ref o2), .val (.int 1), .val (.int 3), .val (.int 1), .val (.int x0)] [(.int 1), (.ref o1)])) rfl rfl (hb hby d19_12) _ ?_
    show Steps p.tables e below (T1.setTop (mkF m 13 #[.val (.ref o1), .val (.int 1), .val (.ref o2), .val (.int 1), .val (.int 3), .val (.int 1), .val (.int x0)] [(.int x1)])) _
    refine XS.istore X1.here hx rfl (hb hby d19_13) rfl (l' := #[.val (.ref o1), .val (.int 1), .val (.ref o2), .val (.int 1), .val (.int 3), .val (.int 1), .val (.int x1)]) rfl ?_
    show Steps p.tables e below (T1.setTop (mkF m 15 #[.val (.ref o1), .val (.int 1), .val (.ref o2), .val (.int 1), .val (.int 3), .val (.int 1), .val (.int x1)] [])) _
    refine XS.iload X1.here hx rfl (hb hby d19_15) rfl ?_
    show Steps p.tables e below (T1.setTop (mkF m 17 #[.val (.ref o1), .val (.int 1), .val (.ref o2), .val (.int 1), .val (.int 3), .val (.int 1), .val (.int x1)] [(.int x1)])) _
    refine XS.sipush X1.here hx rfl (hb hby d19_17) ?_
    show Steps p.tables e below (T1.setTop (mkF m 20 #[.val (.ref o1), .val (.int 1), .val (.ref o2), .val (.int 1), .val (.int 3), .val (.int 1), .val (.int x1)] [(.int 255), (.int x1)])) _
    refine XS.icmpYes X1.here hx rfl (pc0 := 20) (pc' := 26) rfl (hb hby d19_20) rfl (flt (own_ngt hhi_x1 (by decide) : ¬ ((255 : Int32) < x1))).2.2.2 (by decide) (by decide) ?_
    show Steps p.tables e below (T1.setTop (mkF m 26 #[.val (.ref o1), .val (.int 1), .val (.ref o2), .val (.int 1), .val (.int 3), .val (.int 1), .val (.int x1)] [])) _
    refine XS.aloadN X1.here hx rfl (hb hby d19_26) rfl rfl ?_
    show Steps p.tables e below (T1.setTop (mkF m 27 #[.val (.ref o1), .val (.int 1), .val (.ref o2), .val (.int 1), .val (.int 3), .val (.int 1), .val (.int x1)] [(.ref o2)])) _
    refine XS.iloadN X1.here hx rfl (hb hby d19_27) rfl ?_
    show Steps p.tables e below (T1.setTop (mkF m 28 #[.val (.ref o1), .val (.int 1), .val (.ref o2), .val (.int 1), .val (.int 3), .val (.int 1), .val (.int x1)] [(.int 1), (.ref o2)])) _
    refine XS.iload X1.here hx rfl (hb hby d19_28) rfl ?_
    show Steps p.tables e below (T1.setTop (mkF m 30 #[.val (.ref o1), .val (.int 1), .val (.ref o2), .val (.int 1), .val (.int 3), .val (.int 1), .val (.int x1)] [(.int x1), (.int 1), (.ref o2)])) _
    refine XS.i2b X1.here hx rfl (hb hby d19_30) rfl ?_
    show Steps p.tables e below (T1.setTop (mkF m 31 #[.val (.ref o1), .val (.int 1), .val (.ref o2), .val (.int 1), .val (.int 3), .val (.int 1), .val (.int x1)] [(.int (x1.toInt8.toInt32)), (.int 1), (.ref o2)])) _
    refine st2 _ ?_
    show Steps p.tables e below (T2.setTop (mkF m 32 #[.val (.ref o1), .val (.int 1), .val (.ref o2), .val (.int 1), .val (.int 3), .val (.int 1), .val (.int x1)] [])) _
    refine XS.iinc X2.here hx rfl (hb hby d19_32) rfl (l' := #[.val (.ref o1), .val (.int ((1 : Int32) + (1 : Int32))), .val (.ref o2), .val (.int 1), .val (.int 3), .val (.int 1), .val (.int x1)]) rfl ?_
    show Steps p.tables e below (T2.setTop (mkF m 35 #[.val (.ref o1), .val (.int ((1 : Int32) + (1 : Int32))), .val (.ref o2), .val (.int 1), .val (.int 3), .val (.int 1), .val (.int x1)] [])) _
    rw [(by decide : ((1 : Int32) + (1 : Int32)) = (2 : Int32))]
    show Steps p.tables e below (T2.setTop (mkF m 35 #[.val (.ref o1), .val (.int 2), .val (.ref o2), .val (.int 1), .val (.int 3), .val (.int 1), .val (.int x1)] [])) _
    refine XS.iinc X2.here hx rfl (hb hby d19_35) rfl (l' := #[.val (.ref o1), .val (.int 2), .val (.ref o2), .val (.int ((1 : Int32) + (1 : Int32))), .val (.int 3), .val (.int 1), .val (.int x1)]) rfl ?_
    show Steps p.tables e below (T2.setTop (mkF m 38 #[.val (.ref o1), .val (.int 2), .val (.ref o2), .val (.int ((1 : Int32) + (1 : Int32))), .val (.int 3), .val (.int 1), .val (.int x1)] [])) _
    rw [(by decide : ((1 : Int32) + (1 : Int32)) = (2 : Int32))]
    show Steps p.tables e below (T2.setTop (mkF m 38 #[.val (.ref o1), .val (.int 2), .val (.ref o2), .val (.int 2), .val (.int 3), .val (.int 1), .val (.int x1)] [])) _
    refine XS.iinc X2.here hx rfl (hb hby d19_38) rfl (l' := #[.val (.ref o1), .val (.int 2), .val (.ref o2), .val (.int 2), .val (.int 3), .val (.int ((1 : Int32) + (1 : Int32))), .val (.int x1)]) rfl ?_
    show Steps p.tables e below (T2.setTop (mkF m 41 #[.val (.ref o1), .val (.int 2), .val (.ref o2), .val (.int 2), .val (.int 3), .val (.int ((1 : Int32) + (1 : Int32))), .val (.int x1)] [])) _
    rw [(by decide : ((1 : Int32) + (1 : Int32)) = (2 : Int32))]
    show Steps p.tables e below (T2.setTop (mkF m 41 #[.val (.ref o1), .val (.int 2), .val (.ref o2), .val (.int 2), .val (.int 3), .val (.int 2), .val (.int x1)] [])) _
    refine XS.goto X2.here hx rfl (pc0 := 41) (pc' := 3) rfl (hb hby d19_41) (by decide) (by decide) ?_
    show Steps p.tables e below (T2.setTop (mkF m 3 #[.val (.ref o1), .val (.int 2), .val (.ref o2), .val (.int 2), .val (.int 3), .val (.int 2), .val (.int x1)] [])) _
    refine XS.iload X2.here hx rfl (hb hby d19_3) rfl ?_
    show Steps p.tables e below (T2.setTop (mkF m 5 #[.val (.ref o1), .val (.int 2), .val (.ref o2), .val (.int 2), .val (.int 3), .val (.int 2), .val (.int x1)] [(.int 2)])) _
    refine XS.iload X2.here hx rfl (hb hby d19_5) rfl ?_
    show Steps p.tables e below (T2.setTop (mkF m 7 #[.val (.ref o1), .val (.int 2), .val (.ref o2), .val (.int 2), .val (.int 3), .val (.int 2), .val (.int x1)] [(.int 3), (.int 2)])) _
    refine XS.icmpNo X2.here hx rfl (hb hby d19_7) rfl (tlt (by decide : (2 : Int32) < (3 : Int32))).2.1 ?_
    show Steps p.tables e below (T2.setTop (mkF m 10 #[.val (.ref o1), .val (.int 2), .val (.ref o2), .val (.int 2), .val (.int 3), .val (.int 2), .val (.int x1)] [])) _
    refine XS.aloadN X2.here hx rfl (hb hby d19_10) rfl rfl ?_
    show Steps p.tables e below (T2.setTop (mkF m 11 #[.val (.ref o1), .val (.int 2), .val (.ref o2), .val (.int 2), .val (.int 3), .val (.int 2), .val (.int x1)] [(.ref o1)])) _
    refine XS.iloadN X2.here hx rfl (hb hby d19_11) rfl ?_
    show Steps p.tables e below (T2.setTop (mkF m 12 #[.val (.ref o1), .val (.int 2), .val (.ref o2), .val (.int 2), .val (.int 3), .val (.int 2), .val (.int x1)] [(.int 2), (.ref o1)])) _
    refine own_ldC X2 hx hZ e2 ((V_o1.other W1 n_o1_o2).other W2 n_o1_o2) (j := (2 : Int32)) ⟨by decide, by decide⟩ rfl (g := (mkF m 12 #[.val (.ref o1), .val (.int 2), .val (.ref o2), .val (.int 2), .val (.int 3), .val (.int 2), .val (.int x1)] [(.int 2), (.ref o1)])) rfl rfl (hb hby d19_12) _ ?_
    show Steps p.tables e below (T2.setTop (mkF m 13 #[.val (.ref o1), .val (.int 2), .val (.ref o2), .val (.int 2), .val (.int 3), .val (.int 2), .val (.int x1)] [(.int x2)])) _
    refine XS.istore X2.here hx rfl (hb hby d19_13) rfl (l' := #[.val (.ref o1), .val (.int 2), .val (.ref o2), .val (.int 2), .val (.int 3), .val (.int 2), .val (.int x2)]) rfl ?_
    show Steps p.tables e below (T2.setTop (mkF m 15 #[.val (.ref o1), .val (.int 2), .val (.ref o2), .val (.int 2), .val (.int 3), .val (.int 2), .val (.int x2)] [])) _
    refine XS.iload X2.here hx rfl (hb hby d19_15) rfl ?_
    show Steps p.tables e below (T2.setTop (mkF m 17 #[.val (.ref o1), .val (.int 2), .val (.ref o2), .val (.int 2), .val (.int 3), .val (.int 2), .val (.int x2)] [(.int x2)])) _
    refine XS.sipush X2.here hx rfl (hb hby d19_17) ?_
    show Steps p.tables e below (T2.setTop (mkF m 20 #[.val (.ref o1), .val (.int 2), .val (.ref o2), .val (.int 2), .val (.int 3), .val (.int 2), .val (.int x2)] [(.int 255), (.int x2)])) _
    refine XS.icmpYes X2.here hx rfl (pc0 := 20) (pc' := 26) rfl (hb hby d19_20) rfl (flt (own_ngt hhi_x2 (by decide) : ¬ ((255 : Int32) < x2))).2.2.2 (by decide) (by decide) ?_
    show Steps p.tables e below (T2.setTop (mkF m 26 #[.val (.ref o1), .val (.int 2), .val (.ref o2), .val (.int 2), .val (.int 3), .val (.int 2), .val (.int x2)] [])) _
    refine XS.aloadN X2.here hx rfl (hb hby d19_26) rfl rfl ?_
    show Steps p.tables e below (T2.setTop (mkF m 27 #[.val (.ref o1), .val (.int 2), .val (.ref o2), .val (.int 2), .val (.int 3), .val (.int 2), .val (.int x2)] [(.ref o2)])) _
    refine XS.iloadN X2.here hx rfl (hb hby d19_27) rfl ?_
    show Steps p.tables e below (T2.setTop (mkF m 28 #[.val (.ref o1), .val (.int 2), .val (.ref o2), .val (.int 2), .val (.int 3), .val (.int 2), .val (.int x2)] [(.int 2), (.ref o2)])) _
    refine XS.iload X2.here hx rfl (hb hby d19_28) rfl ?_
    show Steps p.tables e below (T2.setTop (mkF m 30 #[.val (.ref o1), .val (.int 2), .val (.ref o2), .val (.int 2), .val (.int 3), .val (.int 2), .val (.int x2)] [(.int x2), (.int 2), (.ref o2)])) _
    refine XS.i2b X2.here hx rfl (hb hby d19_30) rfl ?_
    show Steps p.tables e below (T2.setTop (mkF m 31 #[.val (.ref o1), .val (.int 2), .val (.ref o2), .val (.int 2), .val (.int 3), .val (.int 2), .val (.int x2)] [(.int (x2.toInt8.toInt32)), (.int 2), (.ref o2)])) _
    refine st3 _ ?_
    show Steps p.tables e below (T3.setTop (mkF m 32 #[.val (.ref o1), .val (.int 2), .val (.ref o2), .val (.int 2), .val (.int 3), .val (.int 2), .val (.int x2)] [])) _
    refine XS.iinc X3.here hx rfl (hb hby d19_32) rfl (l' := #[.val (.ref o1), .val (.int ((2 : Int32) + (1 : Int32))), .val (.ref o2), .val (.int 2), .val (.int 3), .val (.int 2), .val (.int x2)]) rfl ?_
    show Steps p.tables e below (T3.setTop (mkF m 35 #[.val (.ref o1), .val (.int ((2 : Int32) + (1 : Int32))), .val (.ref o2), .val (.int 2), .val (.int 3), .val (.int 2), .val (.int x2)] [])) _
    rw [(by decide : ((2 : Int32) + (1 : Int32)) = (3 : Int32))]
    show Steps p.tables e below (T3.setTop (mkF m 35 #[.val (.ref o1), .val (.int 3), .val (.ref o2), .val (.int 2), .val (.int 3), .val (.int 2), .val (.int x2)] [])) _
    refine XS.iinc X3.here hx rfl (hb hby d19_35) rfl (l' := #[.val (.ref o1), .val (.int 3), .val (.ref o2), .val (.int ((2 : Int32) + (1 : Int32))), .val (.int 3), .val (.int 2), .val (.int x2)]) rfl ?_
    show Steps p.tables e below (T3.setTop (mkF m 38 #[.val (.ref o1), .val (.int 3), .val (.ref o2), .val (.int ((2 : Int32) + (1 : Int32))), .val (.int 3), .val (.int 2), .val (.int x2)] [])) _
    rw [(by decide : ((2 : Int32) + (1 : Int32)) = (3 : Int32))]
    show Steps p.tables e below (T3.setTop (mkF m 38 #[.val (.ref o1), .val (.int 3), .val (.ref o2), .val (.int 3), .val (.int 3), .val (.int 2), .val (.int x2)] [])) _
    refine XS.iinc X3.here hx rfl (hb hby d19_38) rfl (l' := #[.val (.ref o1), .val (.int 3), .val (.ref o2), .val (.int 3), .val (.int 3), .val (.int ((2 : Int32) + (1 : Int32))), .val (.int x2)]) rfl ?_
    show Steps p.tables e below (T3.setTop (mkF m 41 #[.val (.ref o1), .val (.int 3), .val (.ref o2), .val (.int 3), .val (.int 3), .val (.int ((2 : Int32) + (1 : Int32))), .val (.int x2)] [])) _
    rw [(by decide : ((2 : Int32) + (1 : Int32)) = (3 : Int32))]
    show Steps p.tables e below (T3.setTop (mkF m 41 #[.val (.ref o1), .val (.int 3), .val (.ref o2), .val (.int 3), .val (.int 3), .val (.int 3), .val (.int x2)] [])) _
    refine XS.goto X3.here hx rfl (pc0 := 41) (pc' := 3) rfl (hb hby d19_41) (by decide) (by decide) ?_
    show Steps p.tables e below (T3.setTop (mkF m 3 #[.val (.ref o1), .val (.int 3), .val (.ref o2), .val (.int 3), .val (.int 3), .val (.int 3), .val (.int x2)] [])) _
    refine XS.iload X3.here hx rfl (hb hby d19_3) rfl ?_
    show Steps p.tables e below (T3.setTop (mkF m 5 #[.val (.ref o1), .val (.int 3), .val (.ref o2), .val (.int 3), .val (.int 3), .val (.int 3), .val (.int x2)] [(.int 3)])) _
    refine XS.iload X3.here hx rfl (hb hby d19_5) rfl ?_
    show Steps p.tables e below (T3.setTop (mkF m 7 #[.val (.ref o1), .val (.int 3), .val (.ref o2), .val (.int 3), .val (.int 3), .val (.int 3), .val (.int x2)] [(.int 3), (.int 3)])) _
    refine XS.icmpYes X3.here hx rfl (pc0 := 7) (pc' := 44) rfl (hb hby d19_7) rfl (flt (by decide : ¬ ((3 : Int32) < (3 : Int32)))).2.1 (by decide) (by decide) ?_
    show Steps p.tables e below (T3.setTop (mkF m 44 #[.val (.ref o1), .val (.int 3), .val (.ref o2), .val (.int 3), .val (.int 3), .val (.int 3), .val (.int x2)] [])) _
    refine XS.iload X3.here hx rfl (hb hby d19_44) rfl ?_
    show Steps p.tables e below (T3.setTop (mkF m 46 #[.val (.ref o1), .val (.int 3), .val (.ref o2), .val (.int 3), .val (.int 3), .val (.int 3), .val (.int x2)] [(.int 3)])) _
    exact retI X3 hx Bd.returns (hb hby d19_46) hr
  · show Q19_o1_0_o2_0_3 Z o1 o2 kk_o1 x0 x1 x2 kk_o2 h0 n0 _ T3.heap _
    rw [e3]
    exact ⟨rfl, N3, K3, V3_o2⟩
def Q18_o1_0_3 (Z : State) (o1 : Addr) (kk_o1 : ClassId) (x0 : Int32) (x1 : Int32) (x2 : Int32) (h0 : Heap) (n0 : Nat) (v : Option Value) (h : Heap) (L : List Loc) : Prop := ∃ (c1 : Addr), ∃ (kd2 : ClassId), v = some (.ref c1) ∧ Fr n0 L ∧ Keep h0 h [] ∧ h0.size ≤ c1 ∧ Arv Z h c1 kd2 .byte (3 : Int32) [(.int (nar .byte (x0.toInt8.toInt32))), (.int (nar .byte (x1.toInt8.toInt32))), (.int (nar .byte (x2.toInt8.toInt32)))] (.int (0 : Int32))
set_option maxRecDepth 65536 in
set_option maxHeartbeats 40000000 in
theorem rm18_o1_0_3 (l : Launch) (Z : State) (a0 : Array Value) (hw : ∀ d ∈ tables_1, d.before a0 Z = true) (ws : List Jvm.Cond) (o1 : Addr) (kk_o1 : ClassId) (x0 : Int32) (x1 : Int32) (x2 : Int32) (h0 : Heap) (n0 : Nat) (Z0 : n0 ≤ h0.size) (V_o1 : Arv Z h0 o1 kk_o1 .char (3 : Int32) [(.int x0), (.int x1), (.int x2)] (.int (0 : Int32))) (hhi_x0 : x0 < (256 : Int32)) (hhi_x1 : x1 < (256 : Int32)) (hhi_x2 : x2 < (256 : Int32)) :
    MetFree l (⟨"java/lang/StringUTF16", "compress", "([CII)[B"⟩ : MethodName) (head1 (Jvm.Cond.code (⟨"java/lang/StringUTF16", "compress", "([CII)[B"⟩ : MethodName) jdk_52_method_16_code 6 (some (.array .byte)) :: ws) ({ frames := 1, cells := 1, slots := 3, locals := 18 } : Room)) (fun a U => a = #[(.ref o1), (.int 0), (.int 3)] ∧ Z.Warmed39 U.vm ∧ U.heap = h0) (fun _ _ _ _ _ => True) (fun _ U o U' => ∃ v L, o = .returned v ∧ Q18_o1_0_3 Z o1 kk_o1 x0 x1 x2 h0 n0 v U'.heap L ∧ FrameEnd U o U' L ({ frames := 1, cells := 1, slots := 3, locals := 18 } : Room).cells ({ frames := 1, cells := 1, slots := 3, locals := 18 } : Room).slots) := by
  refine MetFree.of_bodySF (plainFor_of_name pn_18) hisR ?_
  intro p e s m args below meth c s₁ Bd hml0 hP hK
  obtain ⟨rfl, hZ, hh⟩ := hP
  have hx := Bd.exec
  have hby := Bd.bytes
  have hml : c.maxLocals = 6 := hml0
  have hown : s.vm.findClass "java/lang/StringUTF16" = some m.cls := findClass_of_methodNamed Bd.named
  have hnm := (name_of_methodNamed Bd.named Bd.method).1
  have X0 : Stand p l e ({ frames := 1, cells := 1, slots := 3, locals := 18 } : Room) s m #[(.ref o1), (.int 0), (.int 3)] below meth c s₁ [] 0 0 := Stand.of_body Bd
  have e0 : s₁.heap = h0 := by rw [← hh, Bd.state]; rfl
  have N0 := Fr.nil n0
  have pre0 : ∀ t, Steps p.tables e below (s₁.setTop (mkF m 0 #[.val (.ref o1), .val (.int 0), .val (.int 3), .unset, .unset, .unset] [])) t → Steps p.tables e below (s₁.setTop (entryFrame m #[(.ref o1), (.int 0), (.int 3)] 6)) t := fun t k => castTop (by first | (simp [entryFrame, mkF, argsToLocals, Value.category]; done) | rfl) k
  obtain ⟨T1, h1, k1, X1, e1, E1, A1, st1⟩ := newP X0 hx hZ (hw _ (List.mem_of_getElem? (i := 26) rfl)) e0 (g := (mkF m 1 #[.val (.ref o1), .val (.int 0), .val (.int 3), .unset, .unset, .unset] [(.int 3)])) rfl (hb hby d18_1) rfl (by decide) (cap := 3) (by decide) (by decide) (by decide) (by decide)
  obtain ⟨b1, g1⟩ : ∃ z, z = h0.size := ⟨_, rfl⟩
  have s_b1 : h0.size ≤ b1 := Nat.le_of_eq g1.symm
  have g_b1 : n0 ≤ b1 := Nat.le_trans Z0 s_b1
  have sz_b1 : h0.size ≤ b1 := s_b1
  rw [← g1] at A1 st1
  have K1 : Keep h0 h1 [] := (Keep.refl h0 []).ext E1
  have V_b1 : Arv Z h1 b1 k1 .byte (3 : Int32) [(.int 0), (.int 0), (.int 0)] (.int (0 : Int32)) := (Arv.new A1 (by decide)).pad (pad_rep [] (.int (0 : Int32)) 3)
  obtain ⟨_, _, ⟨T2, L2, k2, n2⟩, -, X2, ⟨Lc2, hQ2, l2, y2, z2⟩, st2⟩ := Jvm.LawKit.callS X1 hx (y := (⟨"java/lang/StringUTF16", "compress", "([CI[BII)I"⟩ : MethodName)) hown (mvT hZ (hw _ (List.mem_of_getElem? (i := 128) rfl))) (mvT hZ (hw _ (List.mem_of_getElem? (i := 129) rfl))) (mvT hZ (hw _ (List.mem_of_getElem? (i := 126) rfl))) (mvT hZ (hw _ (List.mem_of_getElem? (i := 130) rfl))) (by decide) (backOf (W := 0) (rm19_o1_0_o2_0_3 l Z a0 hw [] o1 b1 kk_o1 x0 x1 x2 k1 h1 n0 (Nat.le_trans Z0 K1.1) (V_o1.keep K1 nin0) hhi_x0 V_b1 g_b1 (Nat.ne_of_lt (Nat.lt_of_lt_of_le (V_o1).lt sz_b1)) hhi_x1 hhi_x2) hZ (hw _ (List.mem_of_getElem? (i := 130) rfl)) (hw _ (List.mem_of_getElem? (i := 126) rfl)) (by decide) (by decide)) (g := (mkF m 9 #[.val (.ref o1), .val (.int 0), .val (.int 3), .val (.ref b1), .unset, .unset] [(.int 3), (.int 0), (.ref b1), (.int 0), (.ref o1)])) rfl (by rw [hml]; rfl) (argsL := [(.ref o1), (.int 0), (.ref b1), (.int 0), (.int 3)]) (rest := []) (lenOf pd___CI_BII_I rfl) rfl (by show 2 * 0 + _ ≤ _; exact Nat.le_of_eq rfl) (hb hby d18_9) (fun _ _ => ⟨rfl, e1, (by decide : 1 + 0 ≤ _), (by decide : 3 + 0 ≤ _)⟩)
  dsimp only [Pt.U, Pt.locs, Pt.cells, Pt.slots] at X2 l2 y2 z2 st2 hQ2
  subst l2 y2 z2
  obtain ⟨rfl, N2q, Kq2, fq2_0⟩ := hQ2
  have N2 := Fr.app N0 N2q
  have K2 : Keep h0 T2.heap [] := K1.trans Kq2 (allS (Or.inr sz_b1) all0)
  obtain ⟨fs, hr, hrun, hended, hW, hsame⟩ := X2.leave (v := some (.ref b1)) (fun h => by rw [Bd.returns] at h; cases h)
  refine ⟨_, _, pre0 _ ?_, hrun, hended, _, _, rfl, ?_, ⟨_, rfl⟩, hW, hsame.mono (by decide) (by decide)⟩
  · show Steps p.tables e below (s₁.setTop (mkF m 0 #[.val (.ref o1), .val (.int 0), .val (.int 3), .unset, .unset, .unset] [])) _
    refine XS.iloadN X0.here hx rfl (hb hby d18_0) rfl ?_
    show Steps p.tables e below (s₁.setTop (mkF m 1 #[.val (.ref o1), .val (.int 0), .val (.int 3), .unset, .unset, .unset] [(.int 3)])) _
    refine st1 _ ?_
    show Steps p.tables e below (T1.setTop (mkF m 3 #[.val (.ref o1), .val (.int 0), .val (.int 3), .unset, .unset, .unset] [(.ref b1)])) _
    refine XS.astoreN X1.here hx rfl (hb hby d18_3) rfl rfl (l' := #[.val (.ref o1), .val (.int 0), .val (.int 3), .val (.ref b1), .unset, .unset]) rfl ?_
    show Steps p.tables e below (T1.setTop (mkF m 4 #[.val (.ref o1), .val (.int 0), .val (.int 3), .val (.ref b1), .unset, .unset] [])) _
    refine XS.aloadN X1.here hx rfl (hb hby d18_4) rfl rfl ?_
    show Steps p.tables e below (T1.setTop (mkF m 5 #[.val (.ref o1), .val (.int 0), .val (.int 3), .val (.ref b1), .unset, .unset] [(.ref o1)])) _
    refine XS.iloadN X1.here hx rfl (hb hby d18_5) rfl ?_
    show Steps p.tables e below (T1.setTop (mkF m 6 #[.val (.ref o1), .val (.int 0), .val (.int 3), .val (.ref b1), .unset, .unset] [(.int 0), (.ref o1)])) _
    refine XS.aloadN X1.here hx rfl (hb hby d18_6) rfl rfl ?_
    show Steps p.tables e below (T1.setTop (mkF m 7 #[.val (.ref o1), .val (.int 0), .val (.int 3), .val (.ref b1), .unset, .unset] [(.ref b1), (.int 0), (.ref o1)])) _
    refine XS.iconst X1.here hx rfl (hb hby d18_7) ?_
    show Steps p.tables e below (T1.setTop (mkF m 8 #[.val (.ref o1), .val (.int 0), .val (.int 3), .val (.ref b1), .unset, .unset] [(.int 0), (.ref b1), (.int 0), (.ref o1)])) _
    refine XS.iloadN X1.here hx rfl (hb hby d18_8) rfl ?_
    show Steps p.tables e below (T1.setTop (mkF m 9 #[.val (.ref o1), .val (.int 0), .val (.int 3), .val (.ref b1), .unset, .unset] [(.int 3), (.int 0), (.ref b1), (.int 0), (.ref o1)])) _
    refine st2 _ ?_
    show Steps p.tables e below (T2.setTop (mkF m 12 #[.val (.ref o1), .val (.int 0), .val (.int 3), .val (.ref b1), .unset, .unset] [(.int 3)])) _
    refine XS.istore X2.here hx rfl (hb hby d18_12) rfl (l' := #[.val (.ref o1), .val (.int 0), .val (.int 3), .val (.ref b1), .val (.int 3), .unset]) rfl ?_
    show Steps p.tables e below (T2.setTop (mkF m 14 #[.val (.ref o1), .val (.int 0), .val (.int 3), .val (.ref b1), .val (.int 3), .unset] [])) _
    refine XS.iload X2.here hx rfl (hb hby d18_14) rfl ?_
    show Steps p.tables e below (T2.setTop (mkF m 16 #[.val (.ref o1), .val (.int 0), .val (.int 3), .val (.ref b1), .val (.int 3), .unset] [(.int 3)])) _
    refine XS.iloadN X2.here hx rfl (hb hby d18_16) rfl ?_
    show Steps p.tables e below (T2.setTop (mkF m 17 #[.val (.ref o1), .val (.int 0), .val (.int 3), .val (.ref b1), .val (.int 3), .unset] [(.int 3), (.int 3)])) _
    refine XS.icmpYes X2.here hx rfl (pc0 := 17) (pc' := 57) rfl (hb hby d18_17) rfl (teq (by decide : (3 : Int32) = (3 : Int32))).1 (by decide) (by decide) ?_
    show Steps p.tables e below (T2.setTop (mkF m 57 #[.val (.ref o1), .val (.int 0), .val (.int 3), .val (.ref b1), .val (.int 3), .unset] [])) _
    refine XS.aloadN X2.here hx rfl (hb hby d18_57) rfl rfl ?_
    show Steps p.tables e below (T2.setTop (mkF m 58 #[.val (.ref o1), .val (.int 0), .val (.int 3), .val (.ref b1), .val (.int 3), .unset] [(.ref b1)])) _
    jvm_step X2.here [X2.here.top, hx, (hb hby d18_58), X2.method', Bd.returns, Value.isRef, FieldType.isReference]
    first | (intro acts; rw [hr _ acts rfl rfl rfl]) | rw [hr _ _ rfl rfl rfl]
    exact Steps.refl _
  · show Q18_o1_0_3 Z o1 kk_o1 x0 x1 x2 h0 n0 _ T2.heap _
    exact ⟨b1, k1, rfl, N2, K2, sz_b1, fq2_0⟩
def Q20_o1_3 (Z : State) (o1 : Addr) (kk_o1 : ClassId) (x0 : Int32) (x1 : Int32) (x2 : Int32) (h0 : Heap) (n0 : Nat) (v : Option Value) (h : Heap) (L : List Loc) : Prop := v = some (.int 0) ∧ Fr n0 L ∧ h = h0
set_option maxRecDepth 65536 in
set_option maxHeartbeats 40000000 in
theorem rm20_o1_3 (l : Launch) (Z : State) (a0 : Array Value) (hw : ∀ d ∈ tables_1, d.before a0 Z = true) (ws : List Jvm.Cond) (o1 : Addr) (kk_o1 : ClassId) (x0 : Int32) (x1 : Int32) (x2 : Int32) (h0 : Heap) (n0 : Nat) (Z0 : n0 ≤ h0.size) (V_o1 : Arv Z h0 o1 kk_o1 .byte (3 : Int32) [(.int (nar .byte (x0.toInt8.toInt32))), (.int (nar .byte (x1.toInt8.toInt32))), (.int (nar .byte (x2.toInt8.toInt32)))] (.int (0 : Int32))) :
    MetFree l (⟨"java/lang/StringUTF16", "coderFromArrayLen", "([BI)B"⟩ : MethodName) (head1 (Jvm.Cond.code (⟨"java/lang/StringUTF16", "coderFromArrayLen", "([BI)B"⟩ : MethodName) jdk_52_method_15_code 2 (some .byte) :: ws) ({ frames := 0, cells := 0, slots := 0, locals := 0 } : Room)) (fun a U => a = #[(.ref o1), (.int 3)] ∧ Z.Warmed39 U.vm ∧ U.heap = h0) (fun _ _ _ _ _ => True) (fun _ U o U' => ∃ v L, o = .returned v ∧ Q20_o1_3 Z o1 kk_o1 x0 x1 x2 h0 n0 v U'.heap L ∧ FrameEnd U o U' L ({ frames := 0, cells := 0, slots := 0, locals := 0 } : Room).cells ({ frames := 0, cells := 0, slots := 0, locals := 0 } : Room).slots) := by
  refine MetFree.of_bodySF (plainFor_of_name pn_20) hisR ?_
  intro p e s m args below meth c s₁ Bd hml0 hP hK
  obtain ⟨rfl, hZ, hh⟩ := hP
  have hx := Bd.exec
  have hby := Bd.bytes
  have hml : c.maxLocals = 2 := hml0
  have hown : s.vm.findClass "java/lang/StringUTF16" = some m.cls := findClass_of_methodNamed Bd.named
  have hnm := (name_of_methodNamed Bd.named Bd.method).1
  have X0 : Stand p l e ({ frames := 0, cells := 0, slots := 0, locals := 0 } : Room) s m #[(.ref o1), (.int 3)] below meth c s₁ [] 0 0 := Stand.of_body Bd
  have e0 : s₁.heap = h0 := by rw [← hh, Bd.state]; rfl
  have N0 := Fr.nil n0
  have pre0 : ∀ t, Steps p.tables e below (s₁.setTop (mkF m 0 #[.val (.ref o1), .val (.int 3)] [])) t → Steps p.tables e below (s₁.setTop (entryFrame m #[(.ref o1), (.int 3)] 2)) t := fun t k => castTop (by first | (simp [entryFrame, mkF, argsToLocals, Value.category]; done) | rfl) k
  obtain ⟨fs, hr, hrun, hended, hW, hsame⟩ := X0.leave (v := some (.int 0)) (fun h => by rw [Bd.returns] at h; cases h)
  refine ⟨_, _, pre0 _ ?_, hrun, hended, _, _, rfl, ?_, ⟨_, rfl⟩, hW, hsame.mono (by decide) (by decide)⟩
  · show Steps p.tables e below (s₁.setTop (mkF m 0 #[.val (.ref o1), .val (.int 3)] [])) _
    refine XS.iloadN X0.here hx rfl (hb hby d20_0) rfl ?_
    show Steps p.tables e below (s₁.setTop (mkF m 1 #[.val (.ref o1), .val (.int 3)] [(.int 3)])) _
    refine XS.aloadN X0.here hx rfl (hb hby d20_1) rfl rfl ?_
    show Steps p.tables e below (s₁.setTop (mkF m 2 #[.val (.ref o1), .val (.int 3)] [(.ref o1), (.int 3)])) _
    refine own_len X0 hx hZ e0 V_o1 (g := (mkF m 2 #[.val (.ref o1), .val (.int 3)] [(.ref o1), (.int 3)])) rfl rfl (hb hby d20_2) _ ?_
    show Steps p.tables e below (s₁.setTop (mkF m 3 #[.val (.ref o1), .val (.int 3)] [(.int 3), (.int 3)])) _
    refine XS.isub X0.here hx rfl (hb hby d20_3) rfl ?_
    show Steps p.tables e below (s₁.setTop (mkF m 4 #[.val (.ref o1), .val (.int 3)] [(.int ((3 : Int32) - (3 : Int32)))])) _
    rw [(by decide : ((3 : Int32) - (3 : Int32)) = (0 : Int32))]
    show Steps p.tables e below (s₁.setTop (mkF m 4 #[.val (.ref o1), .val (.int 3)] [(.int 0)])) _
    refine XS.bipush X0.here hx rfl (hb hby d20_4) ?_
    show Steps p.tables e below (s₁.setTop (mkF m 6 #[.val (.ref o1), .val (.int 3)] [(.int 31), (.int 0)])) _
    refine XS.iushr X0.here hx rfl (hb hby d20_6) rfl ?_
    show Steps p.tables e below (s₁.setTop (mkF m 7 #[.val (.ref o1), .val (.int 3)] [(.int (((0 : Int32).toUInt32 >>> ((31 : Int32) &&& 31).toUInt32).toInt32))])) _
    rw [(by decide : (((0 : Int32).toUInt32 >>> ((31 : Int32) &&& 31).toUInt32).toInt32) = (0 : Int32))]
    show Steps p.tables e below (s₁.setTop (mkF m 7 #[.val (.ref o1), .val (.int 3)] [(.int 0)])) _
    refine XS.i2b X0.here hx rfl (hb hby d20_7) rfl ?_
    show Steps p.tables e below (s₁.setTop (mkF m 8 #[.val (.ref o1), .val (.int 3)] [(.int ((0 : Int32).toInt8.toInt32))])) _
    rw [(by decide : ((0 : Int32).toInt8.toInt32) = (0 : Int32))]
    show Steps p.tables e below (s₁.setTop (mkF m 8 #[.val (.ref o1), .val (.int 3)] [(.int 0)])) _
    exact retN X0 hx (t := .byte) Bd.returns (by simp) (hb hby d20_8) hr
  · show Q20_o1_3 Z o1 kk_o1 x0 x1 x2 h0 n0 _ s₁.heap _
    rw [e0]
    exact ⟨rfl, N0, rfl⟩
def Q3_o1_o2_0_3_null (Z : State) (o1 : Addr) (o2 : Addr) (w_COMPACT_STRINGS : Int32) (kk_o2 : ClassId) (x0 : Int32) (x1 : Int32) (x2 : Int32) (h0 : Heap) (n0 : Nat) (v : Option Value) (h : Heap) (L : List Loc) : Prop := ∃ (c1 : Addr), ∃ (kd2 : ClassId), v = none ∧ Fr n0 L ∧ Keep h0 h [o1] ∧ h0.size ≤ c1 ∧ Exa Z h o1 "java/lang/String" ∧ Fld Z h o1 "java/lang/String" "coder" "B" (.int 0) ∧ Fld Z h o1 "java/lang/String" "value" "[B" (.ref c1) ∧ Arv Z h c1 kd2 .byte (3 : Int32) [(.int (nar .byte (x0.toInt8.toInt32))), (.int (nar .byte (x1.toInt8.toInt32))), (.int (nar .byte (x2.toInt8.toInt32)))] (.int (0 : Int32))
set_option maxRecDepth 65536 in
set_option maxHeartbeats 40000000 in
theorem rm3_o1_o2_0_3_null (l : Launch) (Z : State) (a0 : Array Value) (hw : ∀ d ∈ tables_1, d.before a0 Z = true) (ws : List Jvm.Cond) (o1 : Addr) (o2 : Addr) (w_COMPACT_STRINGS : Int32) (kk_o2 : ClassId) (x0 : Int32) (x1 : Int32) (x2 : Int32) (h0 : Heap) (n0 : Nat) (Z0 : n0 ≤ h0.size) (S_COMPACT_STRINGS : Sta Z h0 "java/lang/String" "COMPACT_STRINGS" "Z" (.int w_COMPACT_STRINGS)) (hc30 : ¬ (w_COMPACT_STRINGS = (0 : Int32))) (V_o2 : Arv Z h0 o2 kk_o2 .char (3 : Int32) [(.int x0), (.int x1), (.int x2)] (.int (0 : Int32))) (hhi_x0 : x0 < (256 : Int32)) (hhi_x1 : x1 < (256 : Int32)) (hhi_x2 : x2 < (256 : Int32)) (E_o1 : Exa Z h0 o1 "java/lang/String") (F_coder_o1 : Fld Z h0 o1 "java/lang/String" "coder" "B" (.int 0)) (g_o1 : n0 ≤ o1) (F_value_o1 : Fld Z h0 o1 "java/lang/String" "value" "[B" .null) :
    MetFree l (⟨"java/lang/String", "<init>", "([CIILjava/lang/Void;)V"⟩ : MethodName) (head1 (Jvm.Cond.code (⟨"java/lang/String", "<init>", "([CIILjava/lang/Void;)V"⟩ : MethodName) jdk_42_method_149_code 6 none :: ws) ({ frames := 2, cells := 1, slots := 3, locals := 35 } : Room)) (fun a U => a = #[(.ref o1), (.ref o2), (.int 0), (.int 3), .null] ∧ Z.Warmed39 U.vm ∧ U.heap = h0) (fun _ _ _ _ _ => True) (fun _ U o U' => ∃ v L, o = .returned v ∧ Q3_o1_o2_0_3_null Z o1 o2 w_COMPACT_STRINGS kk_o2 x0 x1 x2 h0 n0 v U'.heap L ∧ FrameEnd U o U' L ({ frames := 2, cells := 1, slots := 3, locals := 35 } : Room).cells ({ frames := 2, cells := 1, slots := 3, locals := 35 } : Room).slots) := by
  refine MetFree.of_bodySF (plainFor_of_name pn_3) hisR ?_
  intro p e s m args below meth c s₁ Bd hml0 hP hK
  obtain ⟨rfl, hZ, hh⟩ := hP
  have hx := Bd.exec
  have hby := Bd.bytes
  have hml : c.maxLocals = 6 := hml0
  have hown : s.vm.findClass "java/lang/String" = some m.cls := findClass_of_methodNamed Bd.named
  have hnm := (name_of_methodNamed Bd.named Bd.method).1
  have X0 : Stand p l e ({ frames := 2, cells := 1, slots := 3, locals := 35 } : Room) s m #[(.ref o1), (.ref o2), (.int 0), (.int 3), .null] below meth c s₁ [] 0 0 := Stand.of_body Bd
  have e0 : s₁.heap = h0 := by rw [← hh, Bd.state]; rfl
  have N0 := Fr.nil n0
  have pre0 : ∀ t, Steps p.tables e below (s₁.setTop (mkF m 0 #[.val (.ref o1), .val (.ref o2), .val (.int 0), .val (.int 3), .val .null, .unset] [])) t → Steps p.tables e below (s₁.setTop (entryFrame m #[(.ref o1), (.ref o2), (.int 0), (.int 3), .null] 6)) t := fun t k => castTop (by first | (simp [entryFrame, mkF, argsToLocals, Value.category]; done) | rfl) k
  obtain ⟨T1, X1, e1, st1⟩ := initO X0 hx hZ hown (hw _ (List.mem_of_getElem? (i := 22) rfl)) (hw _ (List.mem_of_getElem? (i := 23) rfl)) (hw _ (List.mem_of_getElem? (i := 24) rfl)) e0 (g := (mkF m 1 #[.val (.ref o1), .val (.ref o2), .val (.int 0), .val (.int 3), .val .null, .unset] [(.ref o1)])) rfl (by rw [hml]; rfl) rfl (hb hby d3_1) (by decide) (W := 0) (by show 2 * 0 + _ ≤ _; exact Nat.le_of_eq rfl) (by decide)
  obtain ⟨T2, X2, e2, st2⟩ := getS2 X1 hx hZ hown (host := "") (Or.inl (hw _ (List.mem_of_getElem? (i := 123) rfl))) Via.refl e1 S_COMPACT_STRINGS (g := (mkF m 27 #[.val (.ref o1), .val (.ref o2), .val (.int 0), .val (.int 3), .val .null, .unset] [])) rfl (hb hby d3_27)
  obtain ⟨_, _, ⟨T3, L3, k3, n3⟩, -, X3, ⟨Lc3, hQ3, l3, y3, z3⟩, st3⟩ := Jvm.LawKit.callS X2 hx (y := (⟨"java/lang/StringUTF16", "compress", "([CII)[B"⟩ : MethodName)) hown (mvT hZ (hw _ (List.mem_of_getElem? (i := 124) rfl))) (mvT hZ (hw _ (List.mem_of_getElem? (i := 125) rfl))) (mvT hZ (hw _ (List.mem_of_getElem? (i := 126) rfl))) (mvT hZ (hw _ (List.mem_of_getElem? (i := 127) rfl))) (by decide) (backOf (W := 0) (rm18_o1_0_3 l Z a0 hw [] o2 kk_o2 x0 x1 x2 h0 n0 Z0 V_o2 hhi_x0 hhi_x1 hhi_x2) hZ (hw _ (List.mem_of_getElem? (i := 127) rfl)) (hw _ (List.mem_of_getElem? (i := 126) rfl)) (by decide) (by decide)) (g := (mkF m 36 #[.val (.ref o1), .val (.ref o2), .val (.int 0), .val (.int 3), .val .null, .unset] [(.int 3), (.int 0), (.ref o2)])) rfl (by rw [hml]; rfl) (argsL := [(.ref o2), (.int 0), (.int 3)]) (rest := []) (lenOf pd___CII__B rfl) rfl (by show 2 * 0 + _ ≤ _; exact Nat.le_of_eq rfl) (hb hby d3_36) (fun _ _ => ⟨rfl, e2, (by decide : 0 + 1 ≤ _), (by decide : 0 + 3 ≤ _)⟩)
  dsimp only [Pt.U, Pt.locs, Pt.cells, Pt.slots] at X3 l3 y3 z3 st3 hQ3
  subst l3 y3 z3
  obtain ⟨b3c1, kc3kd2, rfl, N3q, Kq3, s_b3c1, fq3_0⟩ := hQ3
  have N3 := Fr.app N0 N3q
  have g_b3c1 : n0 ≤ b3c1 := Nat.le_trans Z0 s_b3c1
  have sz_b3c1 : h0.size ≤ b3c1 := s_b3c1
  have K3 : Keep h0 T3.heap [o1] := (Keep.refl h0 [o1]).trans Kq3 all0
  obtain ⟨_, _, ⟨T4, L4, k4, n4⟩, -, X4, ⟨Lc4, hQ4, l4, y4, z4⟩, st4⟩ := Jvm.LawKit.callS X3 hx (y := (⟨"java/lang/StringUTF16", "coderFromArrayLen", "([BI)B"⟩ : MethodName)) hown (mvT hZ (hw _ (List.mem_of_getElem? (i := 131) rfl))) (mvT hZ (hw _ (List.mem_of_getElem? (i := 132) rfl))) (mvT hZ (hw _ (List.mem_of_getElem? (i := 126) rfl))) (mvT hZ (hw _ (List.mem_of_getElem? (i := 133) rfl))) (by decide) (backOf (W := 1) (rm20_o1_3 l Z a0 hw [] b3c1 kc3kd2 x0 x1 x2 T3.heap n0 (Nat.le_trans Z0 K3.1) fq3_0) hZ (hw _ (List.mem_of_getElem? (i := 133) rfl)) (hw _ (List.mem_of_getElem? (i := 126) rfl)) (by decide) (by decide)) (g := (mkF m 45 #[.val (.ref o1), .val (.ref o2), .val (.int 0), .val (.int 3), .val .null, .val (.ref b3c1)] [(.int 3), (.ref b3c1), (.ref o1)])) rfl (by rw [hml]; rfl) (argsL := [(.ref b3c1), (.int 3)]) (rest := [(.ref o1)]) (lenOf pd___BI_B rfl) rfl (by show 2 * 0 + _ ≤ _; exact Nat.le_of_eq rfl) (hb hby d3_45) (fun _ _ => ⟨rfl, rfl, (by decide : 1 + 0 ≤ _), (by decide : 3 + 0 ≤ _)⟩)
  dsimp only [Pt.U, Pt.locs, Pt.cells, Pt.slots] at X4 l4 y4 z4 st4 hQ4
  subst l4 y4 z4
  obtain ⟨rfl, N4q, e4⟩ := hQ4
  have N4 := Fr.app N3 N4q
  obtain ⟨T5, h5, X5, e5, W5, st5⟩ := putFN X4 hx hZ hown (hw _ (List.mem_of_getElem? (i := 32) rfl)) Via.refl e4 (F_coder_o1.keep Kq3 nin0) (E_o1.keep Kq3) (Or.inr ⟨(hw _ (List.mem_of_getElem? (i := 28) rfl)), rfl, hnm⟩) (hw _ (List.mem_of_getElem? (i := 12) rfl)) (ty := .byte) (v' := (.int 0)) (by decide) (by decide) (by decide) (g := (mkF m 48 #[.val (.ref o1), .val (.ref o2), .val (.int 0), .val (.int 3), .val .null, .val (.ref b3c1)] [(.int 0), (.ref o1)])) rfl rfl (hb hby d3_48)
  have Fw5 := (F_coder_o1.keep Kq3 nin0).same W5
  have N5 := Fr.snoc X5 N4 g_o1
  have K5 : Keep h0 h5 [o1] := K3.wr W5 (Or.inl (List.mem_of_getElem? (i := 0) rfl))
  obtain ⟨T6, h6, X6, e6, W6, st6⟩ := putF X5 hx hZ hown (host := "") (Or.inl (hw _ (List.mem_of_getElem? (i := 31) rfl))) Via.refl e5 ((F_value_o1.keep Kq3 nin0).other W5 (Or.inr (slot_ne (Or.inr (hw _ (List.mem_of_getElem? (i := 27) rfl))) (Or.inr (hw _ (List.mem_of_getElem? (i := 28) rfl))) (by decide) (t := (.array .byte)) (t' := .byte) (by decide) (by decide)))) ((E_o1.keep Kq3).wr W5) (Or.inr ⟨(hw _ (List.mem_of_getElem? (i := 27) rfl)), rfl, hnm⟩) (hw _ (List.mem_of_getElem? (i := 12) rfl)) (ty := (.array .byte)) (by decide) rfl rfl (g := (mkF m 54 #[.val (.ref o1), .val (.ref o2), .val (.int 0), .val (.int 3), .val .null, .val (.ref b3c1)] [(.ref b3c1), (.ref o1)])) rfl rfl (hb hby d3_54)
  have Fw6 := ((F_value_o1.keep Kq3 nin0).other W5 (Or.inr (slot_ne (Or.inr (hw _ (List.mem_of_getElem? (i := 27) rfl))) (Or.inr (hw _ (List.mem_of_getElem? (i := 28) rfl))) (by decide) (t := (.array .byte)) (t' := .byte) (by decide) (by decide)))).same W6
  have N6 := Fr.snoc X6 N5 g_o1
  have K6 : Keep h0 h6 [o1] := K5.wr W6 (Or.inl (List.mem_of_getElem? (i := 0) rfl))
  obtain ⟨fs, hr, hrun, hended, hW, hsame⟩ := X6.leave (v := none) (fun _ => rfl)
  refine ⟨_, _, pre0 _ ?_, hrun, hended, _, _, rfl, ?_, ⟨_, rfl⟩, hW, hsame.mono (by decide) (by decide)⟩
  · show Steps p.tables e below (s₁.setTop (mkF m 0 #[.val (.ref o1), .val (.ref o2), .val (.int 0), .val (.int 3), .val .null, .unset] [])) _
    refine XS.aloadN X0.here hx rfl (hb hby d3_0) rfl rfl ?_
    show Steps p.tables e below (s₁.setTop (mkF m 1 #[.val (.ref o1), .val (.ref o2), .val (.int 0), .val (.int 3), .val .null, .unset] [(.ref o1)])) _
    refine st1 _ ?_
    show Steps p.tables e below (T1.setTop (mkF m 4 #[.val (.ref o1), .val (.ref o2), .val (.int 0), .val (.int 3), .val .null, .unset] [])) _
    refine XS.iloadN X1.here hx rfl (hb hby d3_4) rfl ?_
    show Steps p.tables e below (T1.setTop (mkF m 5 #[.val (.ref o1), .val (.ref o2), .val (.int 0), .val (.int 3), .val .null, .unset] [(.int 3)])) _
    refine XS.ifYes X1.here hx rfl (pc0 := 5) (pc' := 27) rfl (hb hby d3_5) rfl ((if0 _ _).trans (feq (by decide : ¬ ((3 : Int32) = (0 : Int32)))).2) (by decide) (by decide) ?_
    show Steps p.tables e below (T1.setTop (mkF m 27 #[.val (.ref o1), .val (.ref o2), .val (.int 0), .val (.int 3), .val .null, .unset] [])) _
    refine st2 _ ?_
    show Steps p.tables e below (T2.setTop (mkF m 30 #[.val (.ref o1), .val (.ref o2), .val (.int 0), .val (.int 3), .val .null, .unset] [(.int w_COMPACT_STRINGS)])) _
    refine XS.ifNo X2.here hx rfl (hb hby d3_30) rfl ((if0 _ _).trans (feq hc30).1) ?_
    show Steps p.tables e below (T2.setTop (mkF m 33 #[.val (.ref o1), .val (.ref o2), .val (.int 0), .val (.int 3), .val .null, .unset] [])) _
    refine XS.aloadN X2.here hx rfl (hb hby d3_33) rfl rfl ?_
    show Steps p.tables e below (T2.setTop (mkF m 34 #[.val (.ref o1), .val (.ref o2), .val (.int 0), .val (.int 3), .val .null, .unset] [(.ref o2)])) _
    refine XS.iloadN X2.here hx rfl (hb hby d3_34) rfl ?_
    show Steps p.tables e below (T2.setTop (mkF m 35 #[.val (.ref o1), .val (.ref o2), .val (.int 0), .val (.int 3), .val .null, .unset] [(.int 0), (.ref o2)])) _
    refine XS.iloadN X2.here hx rfl (hb hby d3_35) rfl ?_
    show Steps p.tables e below (T2.setTop (mkF m 36 #[.val (.ref o1), .val (.ref o2), .val (.int 0), .val (.int 3), .val .null, .unset] [(.int 3), (.int 0), (.ref o2)])) _
    refine st3 _ ?_
    show Steps p.tables e below (T3.setTop (mkF m 39 #[.val (.ref o1), .val (.ref o2), .val (.int 0), .val (.int 3), .val .null, .unset] [(.ref b3c1)])) _
    refine XS.astore X3.here hx rfl (hb hby d3_39) rfl rfl (l' := #[.val (.ref o1), .val (.ref o2), .val (.int 0), .val (.int 3), .val .null, .val (.ref b3c1)]) rfl ?_
    show Steps p.tables e below (T3.setTop (mkF m 41 #[.val (.ref o1), .val (.ref o2), .val (.int 0), .val (.int 3), .val .null, .val (.ref b3c1)] [])) _
    refine XS.aloadN X3.here hx rfl (hb hby d3_41) rfl rfl ?_
    show Steps p.tables e below (T3.setTop (mkF m 42 #[.val (.ref o1), .val (.ref o2), .val (.int 0), .val (.int 3), .val .null, .val (.ref b3c1)] [(.ref o1)])) _
    refine XS.aload X3.here hx rfl (hb hby d3_42) rfl rfl ?_
    show Steps p.tables e below (T3.setTop (mkF m 44 #[.val (.ref o1), .val (.ref o2), .val (.int 0), .val (.int 3), .val .null, .val (.ref b3c1)] [(.ref b3c1), (.ref o1)])) _
    refine XS.iloadN X3.here hx rfl (hb hby d3_44) rfl ?_
    show Steps p.tables e below (T3.setTop (mkF m 45 #[.val (.ref o1), .val (.ref o2), .val (.int 0), .val (.int 3), .val .null, .val (.ref b3c1)] [(.int 3), (.ref b3c1), (.ref o1)])) _
    refine st4 _ ?_
    show Steps p.tables e below (T4.setTop (mkF m 48 #[.val (.ref o1), .val (.ref o2), .val (.int 0), .val (.int 3), .val .null, .val (.ref b3c1)] [(.int 0), (.ref o1)])) _
    refine st5 _ ?_
    show Steps p.tables e below (T5.setTop (mkF m 51 #[.val (.ref o1), .val (.ref o2), .val (.int 0), .val (.int 3), .val .null, .val (.ref b3c1)] [])) _
    refine XS.aloadN X5.here hx rfl (hb hby d3_51) rfl rfl ?_
    show Steps p.tables e below (T5.setTop (mkF m 52 #[.val (.ref o1), .val (.ref o2), .val (.int 0), .val (.int 3), .val .null, .val (.ref b3c1)] [(.ref o1)])) _
    refine XS.aload X5.here hx rfl (hb hby d3_52) rfl rfl ?_
    show Steps p.tables e below (T5.setTop (mkF m 54 #[.val (.ref o1), .val (.ref o2), .val (.int 0), .val (.int 3), .val .null, .val (.ref b3c1)] [(.ref b3c1), (.ref o1)])) _
    refine st6 _ ?_
    show Steps p.tables e below (T6.setTop (mkF m 57 #[.val (.ref o1), .val (.ref o2), .val (.int 0), .val (.int 3), .val .null, .val (.ref b3c1)] [])) _
    exact X6.returnOut hx Bd.returns (hb hby d3_57) hr
  · show Q3_o1_o2_0_3_null Z o1 o2 w_COMPACT_STRINGS kk_o2 x0 x1 x2 h0 n0 _ T6.heap _
    rw [e6]
    exact ⟨b3c1, kc3kd2, rfl, N6, K6, sz_b3c1, (((E_o1.keep Kq3).wr W5).wr W6), (Fw5.other W6 (Or.inr (slot_ne (Or.inr (hw _ (List.mem_of_getElem? (i := 28) rfl))) (Or.inr (hw _ (List.mem_of_getElem? (i := 27) rfl))) (by decide) (t := .byte) (t' := (.array .byte)) (by decide) (by decide)))), Fw6, ((fq3_0.other W5 (Ne.symm (Nat.ne_of_lt (Nat.lt_of_lt_of_le (E_o1).lt sz_b3c1)))).other W6 (Ne.symm (Nat.ne_of_lt (Nat.lt_of_lt_of_le (E_o1).lt sz_b3c1))))⟩
def Q2_o1_o2_w3 (Z : State) (o1 : Addr) (o2 : Addr) (kk_o2 : ClassId) (x0 : Int32) (x1 : Int32) (x2 : Int32) (w_COMPACT_STRINGS : Int32) (h0 : Heap) (n0 : Nat) (v : Option Value) (h : Heap) (L : List Loc) : Prop := ∃ (c1 : Addr), ∃ (kd2 : ClassId), v = none ∧ Fr n0 L ∧ Keep h0 h [o1] ∧ h0.size ≤ c1 ∧ Exa Z h o1 "java/lang/String" ∧ Fld Z h o1 "java/lang/String" "coder" "B" (.int 0) ∧ Fld Z h o1 "java/lang/String" "value" "[B" (.ref c1) ∧ Arv Z h c1 kd2 .byte (3 : Int32) [(.int (nar .byte (x0.toInt8.toInt32))), (.int (nar .byte (x1.toInt8.toInt32))), (.int (nar .byte (x2.toInt8.toInt32)))] (.int (0 : Int32))
set_option maxRecDepth 65536 in
set_option maxHeartbeats 40000000 in
theorem rm2_o1_o2_w3 (l : Launch) (Z : State) (a0 : Array Value) (hw : ∀ d ∈ tables_1, d.before a0 Z = true) (ws : List Jvm.Cond) (o1 : Addr) (o2 : Addr) (kk_o2 : ClassId) (x0 : Int32) (x1 : Int32) (x2 : Int32) (w_COMPACT_STRINGS : Int32) (h0 : Heap) (n0 : Nat) (Z0 : n0 ≤ h0.size) (V_o2 : Arv Z h0 o2 kk_o2 .char (3 : Int32) [(.int x0), (.int x1), (.int x2)] (.int (0 : Int32))) (S_COMPACT_STRINGS : Sta Z h0 "java/lang/String" "COMPACT_STRINGS" "Z" (.int w_COMPACT_STRINGS)) (hc30 : ¬ (w_COMPACT_STRINGS = (0 : Int32))) (hhi_x0 : x0 < (256 : Int32)) (hhi_x1 : x1 < (256 : Int32)) (hhi_x2 : x2 < (256 : Int32)) (E_o1 : Exa Z h0 o1 "java/lang/String") (F_coder_o1 : Fld Z h0 o1 "java/lang/String" "coder" "B" (.int 0)) (g_o1 : n0 ≤ o1) (F_value_o1 : Fld Z h0 o1 "java/lang/String" "value" "[B" .null) :
    MetFree l (⟨"java/lang/String", "<init>", "([C)V"⟩ : MethodName) (head1 (Jvm.Cond.code (⟨"java/lang/String", "<init>", "([C)V"⟩ : MethodName) jdk_42_method_3_code 2 none :: ws) ({ frames := 3, cells := 1, slots := 3, locals := 52 } : Room)) (fun a U => a = #[(.ref o1), (.ref o2)] ∧ Z.Warmed39 U.vm ∧ U.heap = h0) (fun _ _ _ _ _ => True) (fun _ U o U' => ∃ v L, o = .returned v ∧ Q2_o1_o2_w3 Z o1 o2 kk_o2 x0 x1 x2 w_COMPACT_STRINGS h0 n0 v U'.heap L ∧ FrameEnd U o U' L ({ frames := 3, cells := 1, slots := 3, locals := 52 } : Room).cells ({ frames := 3, cells := 1, slots := 3, locals := 52 } : Room).slots) := by
  refine MetFree.of_bodySF (plainFor_of_name pn_2) hisR ?_
  intro p e s m args below meth c s₁ Bd hml0 hP hK
  obtain ⟨rfl, hZ, hh⟩ := hP
  have hx := Bd.exec
  have hby := Bd.bytes
  have hml : c.maxLocals = 2 := hml0
  have hown : s.vm.findClass "java/lang/String" = some m.cls := findClass_of_methodNamed Bd.named
  have hnm := (name_of_methodNamed Bd.named Bd.method).1
  have X0 : Stand p l e ({ frames := 3, cells := 1, slots := 3, locals := 52 } : Room) s m #[(.ref o1), (.ref o2)] below meth c s₁ [] 0 0 := Stand.of_body Bd
  have e0 : s₁.heap = h0 := by rw [← hh, Bd.state]; rfl
  have N0 := Fr.nil n0
  have pre0 : ∀ t, Steps p.tables e below (s₁.setTop (mkF m 0 #[.val (.ref o1), .val (.ref o2)] [])) t → Steps p.tables e below (s₁.setTop (entryFrame m #[(.ref o1), (.ref o2)] 2)) t := fun t k => castTop (by first | (simp [entryFrame, mkF, argsToLocals, Value.category]; done) | rfl) k
  obtain ⟨_, _, ⟨T1, L1, k1, n1⟩, -, X1, ⟨Lc1, hQ1, l1, y1, z1⟩, st1⟩ := X0.specialBack hx (y := (⟨"java/lang/String", "<init>", "([CIILjava/lang/Void;)V"⟩ : MethodName)) rfl hown (mvT hZ (hw _ (List.mem_of_getElem? (i := 18) rfl))) (mvT hZ (hw _ (List.mem_of_getElem? (i := 19) rfl))) (mvT hZ (hw _ (List.mem_of_getElem? (i := 21) rfl))) (by decide) (backOf (W := 0) (rm3_o1_o2_0_3_null l Z a0 hw [] o1 o2 w_COMPACT_STRINGS kk_o2 x0 x1 x2 h0 n0 Z0 S_COMPACT_STRINGS hc30 V_o2 hhi_x0 hhi_x1 hhi_x2 E_o1 F_coder_o1 g_o1 F_value_o1) hZ (hw _ (List.mem_of_getElem? (i := 21) rfl)) (hw _ (List.mem_of_getElem? (i := 13) rfl)) (by decide) (by decide)) (g := (mkF m 6 #[.val (.ref o1), .val (.ref o2)] [.null, (.int 3), (.int 0), (.ref o2), (.ref o1)])) rfl (by rw [hml]; rfl) (Steps.refl _) (a := o1) (argsL := [(.ref o2), (.int 0), (.int 3), .null]) (rest := []) (lenOf pd___CIILjava_lang_Void__V rfl) rfl (by show 2 * 0 + _ ≤ _; exact Nat.le_of_eq rfl) (hb hby d2_6) (fun _ _ => ⟨rfl, e0, (by decide : 0 + 1 ≤ _), (by decide : 0 + 3 ≤ _)⟩)
  dsimp only [Pt.U, Pt.locs, Pt.cells, Pt.slots] at X1 l1 y1 z1 st1 hQ1
  subst l1 y1 z1
  obtain ⟨b1c1, kc1kd2, rfl, N1q, Kq1, s_b1c1, fq1_0, fq1_1, fq1_2, fq1_3⟩ := hQ1
  have N1 := Fr.app N0 N1q
  have g_b1c1 : n0 ≤ b1c1 := Nat.le_trans Z0 s_b1c1
  have sz_b1c1 : h0.size ≤ b1c1 := s_b1c1
  have K1 : Keep h0 T1.heap [o1] := (Keep.refl h0 [o1]).trans Kq1 (allS (Or.inl (List.mem_of_getElem? (i := 0) rfl)) all0)
  obtain ⟨fs, hr, hrun, hended, hW, hsame⟩ := X1.leave (v := none) (fun _ => rfl)
  refine ⟨_, _, pre0 _ ?_, hrun, hended, _, _, rfl, ?_, ⟨_, rfl⟩, hW, hsame.mono (by decide) (by decide)⟩
  · show Steps p.tables e below (s₁.setTop (mkF m 0 #[.val (.ref o1), .val (.ref o2)] [])) _
    refine XS.aloadN X0.here hx rfl (hb hby d2_0) rfl rfl ?_
    show Steps p.tables e below (s₁.setTop (mkF m 1 #[.val (.ref o1), .val (.ref o2)] [(.ref o1)])) _
    refine XS.aloadN X0.here hx rfl (hb hby d2_1) rfl rfl ?_
    show Steps p.tables e below (s₁.setTop (mkF m 2 #[.val (.ref o1), .val (.ref o2)] [(.ref o2), (.ref o1)])) _
    refine XS.iconst X0.here hx rfl (hb hby d2_2) ?_
    show Steps p.tables e below (s₁.setTop (mkF m 3 #[.val (.ref o1), .val (.ref o2)] [(.int 0), (.ref o2), (.ref o1)])) _
    refine XS.aloadN X0.here hx rfl (hb hby d2_3) rfl rfl ?_
    show Steps p.tables e below (s₁.setTop (mkF m 4 #[.val (.ref o1), .val (.ref o2)] [(.ref o2), (.int 0), (.ref o2), (.ref o1)])) _
    refine own_len X0 hx hZ e0 V_o2 (g := (mkF m 4 #[.val (.ref o1), .val (.ref o2)] [(.ref o2), (.int 0), (.ref o2), (.ref o1)])) rfl rfl (hb hby d2_4) _ ?_
    show Steps p.tables e below (s₁.setTop (mkF m 5 #[.val (.ref o1), .val (.ref o2)] [(.int 3), (.int 0), (.ref o2), (.ref o1)])) _
    refine XS.aconstNull X0.here hx rfl (hb hby d2_5) ?_
    show Steps p.tables e below (s₁.setTop (mkF m 6 #[.val (.ref o1), .val (.ref o2)] [.null, (.int 3), (.int 0), (.ref o2), (.ref o1)])) _
    refine st1.trans ?_
    show Steps p.tables e below (T1.setTop (mkF m 9 #[.val (.ref o1), .val (.ref o2)] [])) _
    exact X1.returnOut hx Bd.returns (hb hby d2_9) hr
  · show Q2_o1_o2_w3 Z o1 o2 kk_o2 x0 x1 x2 w_COMPACT_STRINGS h0 n0 _ T1.heap _
    exact ⟨b1c1, kc1kd2, rfl, N1, K1, sz_b1c1, fq1_0, fq1_1, fq1_2, fq1_3⟩
def Q1_3_x0_x1_x2_m1_256_m1_256_m1_256 (Z : State) (x0 : Int32) (x1 : Int32) (x2 : Int32) (w_COMPACT_STRINGS : Int32) (h0 : Heap) (n0 : Nat) (v : Option Value) (h : Heap) (L : List Loc) : Prop := ∃ (c1 : Addr), ∃ (c2 : Addr), ∃ (kd3 : ClassId), v = some (.ref c1) ∧ Fr n0 L ∧ Keep h0 h [] ∧ h0.size ≤ c1 ∧ h0.size ≤ c2 ∧ c1 ≠ c2 ∧ Exa Z h c1 "java/lang/String" ∧ Fld Z h c1 "java/lang/String" "coder" "B" (.int 0) ∧ Fld Z h c1 "java/lang/String" "value" "[B" (.ref c2) ∧ Arv Z h c2 kd3 .byte (3 : Int32) [(.int (nar .byte (x0.toInt8.toInt32))), (.int (nar .byte (x1.toInt8.toInt32))), (.int (nar .byte (x2.toInt8.toInt32)))] (.int (0 : Int32))
set_option maxRecDepth 65536 in
set_option maxHeartbeats 40000000 in
theorem rm1_3_x0_x1_x2_m1_256_m1_256_m1_256 (l : Launch) (Z : State) (a0 : Array Value) (hw : ∀ d ∈ tables_1, d.before a0 Z = true) (ws : List Jvm.Cond) (x0 : Int32) (x1 : Int32) (x2 : Int32) (w_COMPACT_STRINGS : Int32) (h0 : Heap) (n0 : Nat) (Z0 : n0 ≤ h0.size) (hlo_x0 : (-1 : Int32) < x0) (hhi_x0 : x0 < (256 : Int32)) (hlo_x1 : (-1 : Int32) < x1) (hhi_x1 : x1 < (256 : Int32)) (hlo_x2 : (-1 : Int32) < x2) (hhi_x2 : x2 < (256 : Int32)) (S_COMPACT_STRINGS : Sta Z h0 "java/lang/String" "COMPACT_STRINGS" "Z" (.int w_COMPACT_STRINGS)) (hc30 : ¬ (w_COMPACT_STRINGS = (0 : Int32))) :
    MetFree l (⟨"com/example/stanza_filter/stanzafilter/engine/PrivacyItemGroupPinLaw", "makeString", "(ICCC)Ljava/lang/String;"⟩ : MethodName) (head1 (Jvm.Cond.code (⟨"com/example/stanza_filter/stanzafilter/engine/PrivacyItemGroupPinLaw", "makeString", "(ICCC)Ljava/lang/String;"⟩ : MethodName) method_3_code 5 (some (.object "java/lang/String")) :: ws) ({ frames := 4, cells := 3, slots := 10, locals := 66 } : Room)) (fun a U => a = #[(.int 3), (.int x0), (.int x1), (.int x2)] ∧ Z.Warmed39 U.vm ∧ U.heap = h0) (fun _ _ _ _ _ => True) (fun _ U o U' => ∃ v L, o = .returned v ∧ Q1_3_x0_x1_x2_m1_256_m1_256_m1_256 Z x0 x1 x2 w_COMPACT_STRINGS h0 n0 v U'.heap L ∧ FrameEnd U o U' L ({ frames := 4, cells := 3, slots := 10, locals := 66 } : Room).cells ({ frames := 4, cells := 3, slots := 10, locals := 66 } : Room).slots) := by
  refine MetFree.of_bodySF (plainFor_of_name pn_1) hisR ?_
  intro p e s m args below meth c s₁ Bd hml0 hP hK
  obtain ⟨rfl, hZ, hh⟩ := hP
  have hx := Bd.exec
  have hby := Bd.bytes
  have hml : c.maxLocals = 5 := hml0
  have hown : s.vm.findClass "com/example/stanza_filter/stanzafilter/engine/PrivacyItemGroupPinLaw" = some m.cls := findClass_of_methodNamed Bd.named
  have hnm := (name_of_methodNamed Bd.named Bd.method).1
  have X0 : Stand p l e ({ frames := 4, cells := 3, slots := 10, locals := 66 } : Room) s m #[(.int 3), (.int x0), (.int x1), (.int x2)] below meth c s₁ [] 0 0 := Stand.of_body Bd
  have e0 : s₁.heap = h0 := by rw [← hh, Bd.state]; rfl
  have N0 := Fr.nil n0
  have pre0 : ∀ t, Steps p.tables e below (s₁.setTop (mkF m 0 #[.val (.int 3), .val (.int x0), .val (.int x1), .val (.int x2), .unset] [])) t → Steps p.tables e below (s₁.setTop (entryFrame m #[(.int 3), (.int x0), (.int x1), (.int x2)] 5)) t := fun t k => castTop (by first | (simp [entryFrame, mkF, argsToLocals, Value.category]; done) | rfl) k
  obtain ⟨T1, h1, k1, X1, e1, E1, A1, st1⟩ := newP X0 hx hZ (hw _ (List.mem_of_getElem? (i := 14) rfl)) e0 (g := (mkF m 71 #[.val (.int 3), .val (.int x0), .val (.int x1), .val (.int x2), .unset] [(.int 3)])) rfl (hb hby d1_71) rfl (by decide) (cap := 3) (by decide) (by decide) (by decide) (by decide)
  obtain ⟨b1, g1⟩ : ∃ z, z = h0.size := ⟨_, rfl⟩
  have s_b1 : h0.size ≤ b1 := Nat.le_of_eq g1.symm
  have g_b1 : n0 ≤ b1 := Nat.le_trans Z0 s_b1
  have sz_b1 : h0.size ≤ b1 := s_b1
  rw [← g1] at A1 st1
  have K1 : Keep h0 h1 [] := (Keep.refl h0 []).ext E1
  have V_b1 : Arv Z h1 b1 k1 .char (3 : Int32) [(.int 0), (.int 0), (.int 0)] (.int (0 : Int32)) := (Arv.new A1 (by decide)).pad (pad_rep [] (.int (0 : Int32)) 3)
  obtain ⟨T2, h2, X2, e2, W2, Vw2, st2⟩ := own_stC X1 hx hZ e1 V_b1 (x' := x0) (own_nar hlo_x0 hhi_x0) 0 rfl ⟨by decide, by decide⟩ (Nat.le_of_ble_eq_true rfl) (g := (mkF m 79 #[.val (.int 3), .val (.int x0), .val (.int x1), .val (.int x2), .val (.ref b1)] [(.int x0), (.int 0), (.ref b1)])) rfl rfl (hb hby d1_79)
  have N2 := Fr.snoc X2 N0 g_b1
  have K2 : Keep h0 h2 [] := K1.wr W2 (Or.inr sz_b1)
  have V2_b1 : Arv Z h2 b1 k1 .char (3 : Int32) [(.int x0), (.int 0), (.int 0)] (.int (0 : Int32)) := Vw2
  obtain ⟨T3, h3, X3, e3, W3, Vw3, st3⟩ := own_stC X2 hx hZ e2 V2_b1 (x' := x1) (own_nar hlo_x1 hhi_x1) 1 rfl ⟨by decide, by decide⟩ (Nat.le_of_ble_eq_true rfl) (g := (mkF m 84 #[.val (.int 3), .val (.int x0), .val (.int x1), .val (.int x2), .val (.ref b1)] [(.int x1), (.int 1), (.ref b1)])) rfl rfl (hb hby d1_84)
  have N3 := Fr.snoc X3 N2 g_b1
  have K3 : Keep h0 h3 [] := K2.wr W3 (Or.inr sz_b1)
  have V3_b1 : Arv Z h3 b1 k1 .char (3 : Int32) [(.int x0), (.int x1), (.int 0)] (.int (0 : Int32)) := Vw3
  obtain ⟨T4, h4, X4, e4, W4, Vw4, st4⟩ := own_stC X3 hx hZ e3 V3_b1 (x' := x2) (own_nar hlo_x2 hhi_x2) 2 rfl ⟨by decide, by decide⟩ (Nat.le_of_ble_eq_true rfl) (g := (mkF m 89 #[.val (.int 3), .val (.int x0), .val (.int x1), .val (.int x2), .val (.ref b1)] [(.int x2), (.int 2), (.ref b1)])) rfl rfl (hb hby d1_89)
  have N4 := Fr.snoc X4 N3 g_b1
  have K4 : Keep h0 h4 [] := K3.wr W4 (Or.inr sz_b1)
  have V4_b1 : Arv Z h4 b1 k1 .char (3 : Int32) [(.int x0), (.int x1), (.int x2)] (.int (0 : Int32)) := Vw4
  obtain ⟨T5, h5, X5, e5, E5, A5, D5, -, st5⟩ := newO X4 hx hZ hown (hw _ (List.mem_of_getElem? (i := 11) rfl)) (hw _ (List.mem_of_getElem? (i := 12) rfl)) (hw _ (List.mem_of_getElem? (i := 13) rfl)) e4 (g := (mkF m 90 #[.val (.int 3), .val (.int x0), .val (.int x1), .val (.int x2), .val (.ref b1)] [])) rfl (hb hby d1_90) (by decide) (by decide)
  obtain ⟨b5, g5⟩ : ∃ z, z = h4.size := ⟨_, rfl⟩
  have s_b5 : h4.size ≤ b5 := Nat.le_of_eq g5.symm
  have g_b5 : n0 ≤ b5 := Nat.le_trans (Nat.le_trans Z0 K4.1) s_b5
  have sz_b5 : h0.size ≤ b5 := Nat.le_trans K4.1 s_b5
  rw [← g5] at A5 D5 st5
  have K5 : Keep h0 h5 [] := K4.ext E5
  have F_value_b5 : Fld Z h5 b5 "java/lang/String" "value" "[B" .null := D5 (Or.inr (hw _ (List.mem_of_getElem? (i := 27) rfl))) (ty := (.array .byte)) (by decide)
  have F_coder_b5 : Fld Z h5 b5 "java/lang/String" "coder" "B" (.int 0) := D5 (Or.inr (hw _ (List.mem_of_getElem? (i := 28) rfl))) (ty := .byte) (by decide)
  obtain ⟨_, _, ⟨T6, L6, k6, n6⟩, -, X6, ⟨Lc6, hQ6, l6, y6, z6⟩, st6⟩ := X5.specialBack hx (y := (⟨"java/lang/String", "<init>", "([C)V"⟩ : MethodName)) rfl hown (mvT hZ (hw _ (List.mem_of_getElem? (i := 15) rfl))) (mvT hZ (hw _ (List.mem_of_getElem? (i := 16) rfl))) (mvT hZ (hw _ (List.mem_of_getElem? (i := 17) rfl))) (by decide) (backOf (W := 1) (rm2_o1_o2_w3 l Z a0 hw [] b5 b1 k1 x0 x1 x2 w_COMPACT_STRINGS h5 n0 (Nat.le_trans Z0 K5.1) (V4_b1.ext E5) (own_sta_keep S_COMPACT_STRINGS K5) hc30 hhi_x0 hhi_x1 hhi_x2 A5 F_coder_b5 g_b5 F_value_b5) hZ (hw _ (List.mem_of_getElem? (i := 17) rfl)) (hw _ (List.mem_of_getElem? (i := 13) rfl)) (by decide) (by decide)) (g := (mkF m 96 #[.val (.int 3), .val (.int x0), .val (.int x1), .val (.int x2), .val (.ref b1)] [(.ref b1), (.ref b5), (.ref b5)])) rfl (by rw [hml]; rfl) (Steps.refl _) (a := b5) (argsL := [(.ref b1)]) (rest := [(.ref b5)]) (lenOf pd___C_V rfl) rfl (by show 2 * 0 + _ ≤ _; exact Nat.le_of_eq rfl) (hb hby d1_96) (fun _ _ => ⟨rfl, e5, (by decide : 2 + 1 ≤ _), (by decide : 7 + 3 ≤ _)⟩)
  dsimp only [Pt.U, Pt.locs, Pt.cells, Pt.slots] at X6 l6 y6 z6 st6 hQ6
  subst l6 y6 z6
  obtain ⟨b6c1, kc6kd2, rfl, N6q, Kq6, s_b6c1, fq6_0, fq6_1, fq6_2, fq6_3⟩ := hQ6
  have N6 := Fr.app N4 N6q
  have g_b6c1 : n0 ≤ b6c1 := Nat.le_trans (Nat.le_trans Z0 K5.1) s_b6c1
  have sz_b6c1 : h0.size ≤ b6c1 := Nat.le_trans K5.1 s_b6c1
  have K6 : Keep h0 T6.heap [] := K5.trans Kq6 (allS (Or.inr sz_b5) all0)
  obtain ⟨fs, hr, hrun, hended, hW, hsame⟩ := X6.leave (v := some (.ref b5)) (fun h => by rw [Bd.returns] at h; cases h)
  refine ⟨_, _, pre0 _ ?_, hrun, hended, _, _, rfl, ?_, ⟨_, rfl⟩, hW, hsame.mono (by decide) (by decide)⟩
  · show Steps p.tables e below (s₁.setTop (mkF m 0 #[.val (.int 3), .val (.int x0), .val (.int x1), .val (.int x2), .unset] [])) _
    refine XS.iloadN X0.here hx rfl (hb hby d1_0) rfl ?_
    show Steps p.tables e below (s₁.setTop (mkF m 1 #[.val (.int 3), .val (.int x0), .val (.int x1), .val (.int x2), .unset] [(.int 3)])) _
    refine XS.ifYes X0.here hx rfl (pc0 := 1) (pc' := 15) rfl (hb hby d1_1) rfl ((if0 _ _).trans (feq (by decide : ¬ ((3 : Int32) = (0 : Int32)))).2) (by decide) (by decide) ?_
    show Steps p.tables e below (s₁.setTop (mkF m 15 #[.val (.int 3), .val (.int x0), .val (.int x1), .val (.int x2), .unset] [])) _
    refine XS.iloadN X0.here hx rfl (hb hby d1_15) rfl ?_
    show Steps p.tables e below (s₁.setTop (mkF m 16 #[.val (.int 3), .val (.int x0), .val (.int x1), .val (.int x2), .unset] [(.int 3)])) _
    refine XS.iconst X0.here hx rfl (hb hby d1_16) ?_
    show Steps p.tables e below (s₁.setTop (mkF m 17 #[.val (.int 3), .val (.int x0), .val (.int x1), .val (.int x2), .unset] [(.int 1), (.int 3)])) _
    refine XS.icmpYes X0.here hx rfl (pc0 := 17) (pc' := 40) rfl (hb hby d1_17) rfl (feq (by decide : ¬ ((3 : Int32) = (1 : Int32)))).2 (by decide) (by decide) ?_
    show Steps p.tables e below (s₁.setTop (mkF m 40 #[.val (.int 3), .val (.int x0), .val (.int x1), .val (.int x2), .unset] [])) _
    refine XS.iloadN X0.here hx rfl (hb hby d1_40) rfl ?_
    show Steps p.tables e below (s₁.setTop (mkF m 41 #[.val (.int 3), .val (.int x0), .val (.int x1), .val (.int x2), .unset] [(.int 3)])) _
    refine XS.iconst X0.here hx rfl (hb hby d1_41) ?_
    show Steps p.tables e below (s₁.setTop (mkF m 42 #[.val (.int 3), .val (.int x0), .val (.int x1), .val (.int x2), .unset] [(.int 2), (.int 3)])) _
    refine XS.icmpYes X0.here hx rfl (pc0 := 42) (pc' := 70) rfl (hb hby d1_42) rfl (feq (by decide : ¬ ((3 : Int32) = (2 : Int32)))).2 (by decide) (by decide) ?_
    show Steps p.tables e below (s₁.setTop (mkF m 70 #[.val (.int 3), .val (.int x0), .val (.int x1), .val (.int x2), .unset] [])) _
    refine XS.iconst X0.here hx rfl (hb hby d1_70) ?_
    show Steps p.tables e below (s₁.setTop (mkF m 71 #[.val (.int 3), .val (.int x0), .val (.int x1), .val (.int x2), .unset] [(.int 3)])) _
    refine st1 _ ?_
    show Steps p.tables e below (T1.setTop (mkF m 73 #[.val (.int 3), .val (.int x0), .val (.int x1), .val (.int x2), .unset] [(.ref b1)])) _
    refine XS.astore X1.here hx rfl (hb hby d1_73) rfl rfl (l' := #[.val (.int 3), .val (.int x0), .val (.int x1), .val (.int x2), .val (.ref b1)]) rfl ?_
    show Steps p.tables e below (T1.setTop (mkF m 75 #[.val (.int 3), .val (.int x0), .val (.int x1), .val (.int x2), .val (.ref b1)] [])) _
    refine XS.aload X1.here hx rfl (hb hby d1_75) rfl rfl ?_
    show Steps p.tables e below (T1.setTop (mkF m 77 #[.val (.int 3), .val (.int x0), .val (.int x1), .val (.int x2), .val (.ref b1)] [(.ref b1)])) _
    refine XS.iconst X1.here hx rfl (hb hby d1_77) ?_
    show Steps p.tables e below (T1.setTop (mkF m 78 #[.val (.int 3), .val (.int x0), .val (.int x1), .val (.int x2), .val (.ref b1)] [(.int 0), (.ref b1)])) _
    refine XS.iloadN X1.here hx rfl (hb hby d1_78) rfl ?_
    show Steps p.tables e below (T1.setTop (mkF m 79 #[.val (.int 3), .val (.int x0), .val (.int x1), .val (.int x2), .val (.ref b1)] [(.int x0), (.int 0), (.ref b1)])) _
    refine st2 _ ?_
    show Steps p.tables e below (T2.setTop (mkF m 80 #[.val (.int 3), .val (.int x0), .val (.int x1), .val (.int x2), .val (.ref b1)] [])) _
    refine XS.aload X2.here hx rfl (hb hby d1_80) rfl rfl ?_
    show Steps p.tables e below (T2.setTop (mkF m 82 #[.val (.int 3), .val (.int x0), .val (.int x1), .val (.int x2), .val (.ref b1)] [(.ref b1)])) _
    refine XS.iconst X2.here hx rfl (hb hby d1_82) ?_
    show Steps p.tables e below (T2.setTop (mkF m 83 #[.val (.int 3), .val (.int x0), .val (.int x1), .val (.int x2), .val (.ref b1)] [(.int 1), (.ref b1)])) _
    refine XS.iloadN X2.here hx rfl (hb hby d1_83) rfl ?_
    show Steps p.tables e below (T2.setTop (mkF m 84 #[.val (.int 3), .val (.int x0), .val (.int x1), .val (.int x2), .val (.ref b1)] [(.int x1), (.int 1), (.ref b1)])) _
    refine st3 _ ?_
    show Steps p.tables e below (T3.setTop (mkF m 85 #[.val (.int 3), .val (.int x0), .val (.int x1), .val (.int x2), .val (.ref b1)] [])) _
    refine XS.aload X3.here hx rfl (hb hby d1_85) rfl rfl ?_
    show Steps p.tables e below (T3.setTop (mkF m 87 #[.val (.int 3), .val (.int x0), .val (.int x1), .val (.int x2), .val (.ref b1)] [(.ref b1)])) _
    refine XS.iconst X3.here hx rfl (hb hby d1_87) ?_
    show Steps p.tables e below (T3.setTop (mkF m 88 #[.val (.int 3), .val (.int x0), .val (.int x1), .val (.int x2), .val (.ref b1)] [(.int 2), (.ref b1)])) _
    refine XS.iloadN X3.here hx rfl (hb hby d1_88) rfl ?_
    show Steps p.tables e below (T3.setTop (mkF m 89 #[.val (.int 3), .val (.int x0), .val (.int x1), .val (.int x2), .val (.ref b1)] [(.int x2), (.int 2), (.ref b1)])) _
    refine st4 _ ?_
    show Steps p.tables e below (T4.setTop (mkF m 90 #[.val (.int 3), .val (.int x0), .val (.int x1), .val (.int x2), .val (.ref b1)] [])) _
    refine st5 _ ?_
    show Steps p.tables e below (T5.setTop (mkF m 93 #[.val (.int 3), .val (.int x0), .val (.int x1), .val (.int x2), .val (.ref b1)] [(.ref b5)])) _
    refine XS.dup X5.here hx rfl (hb hby d1_93) rfl rfl ?_
    show Steps p.tables e below (T5.setTop (mkF m 94 #[.val (.int 3), .val (.int x0), .val (.int x1), .val (.int x2), .val (.ref b1)] [(.ref b5), (.ref b5)])) _
    refine XS.aload X5.here hx rfl (hb hby d1_94) rfl rfl ?_
    show Steps p.tables e below (T5.setTop (mkF m 96 #[.val (.int 3), .val (.int x0), .val (.int x1), .val (.int x2), .val (.ref b1)] [(.ref b1), (.ref b5), (.ref b5)])) _
    refine st6.trans ?_
    show Steps p.tables e below (T6.setTop (mkF m 99 #[.val (.int 3), .val (.int x0), .val (.int x1), .val (.int x2), .val (.ref b1)] [(.ref b5)])) _
    jvm_step X6.here [X6.here.top, hx, (hb hby d1_99), X6.method', Bd.returns, Value.isRef, FieldType.isReference]
    first | (intro acts; rw [hr _ acts rfl rfl rfl]) | rw [hr _ _ rfl rfl rfl]
    exact Steps.refl _
  · show Q1_3_x0_x1_x2_m1_256_m1_256_m1_256 Z x0 x1 x2 w_COMPACT_STRINGS h0 n0 _ T6.heap _
    exact ⟨b5, b6c1, kc6kd2, rfl, N6, K6, sz_b5, sz_b6c1, (Nat.ne_of_lt (Nat.lt_of_lt_of_le (A5).lt s_b6c1)), fq6_0, fq6_1, fq6_2, fq6_3⟩
set_option maxRecDepth 65536 in
set_option maxHeartbeats 40000000 in
theorem pc0_C3 {p : Program} {l : Launch} {e : Env} {s : State} {m : MethodId} {args : Array Value} {below : List Frame} {meth : Method} {c : Code} {T0 : State} {locs : List Loc} {Z : State} {a0 : Array Value} {h0 : Heap} {n0 : Nat} (q1 : Int64) (p2 : Int32) (p3 : Int32) (p4 : Int32) (p5 : Int32) (ord : Int64) (act : Addr) (sc : Int32) (scv : Value) (x0 : Int32) (x1 : Int32) (x2 : Int32) (w_COMPACT_STRINGS : Int32)
    (X0 : Stand p l e room_1 s m args below meth c T0 locs 0 0) (hx : p.tables.exec = Jvm.exec) (hZ : Z.Warmed39 s.vm) (hw : ∀ d ∈ tables_1, d.before a0 Z = true) (hby : c.code = code) (hml : c.maxLocals = 17) (hown : s.vm.findClass "com/example/stanza_filter/stanzafilter/engine/PrivacyItemGroupPinLaw" = some m.cls) (e0 : T0.heap = h0) (Z0 : n0 ≤ h0.size) (N0 : Fr n0 locs) (hln : (((p2.toUInt32 >>> ((4 : Int32) &&& 31).toUInt32).toInt32) &&& (3 : Int32)) = (3 : Int32)) (hx0 : ((p3 &&& (255 : Int32)).toUInt32.toUInt16.toUInt32.toInt32) = x0) (hx1 : ((p4 &&& (255 : Int32)).toUInt32.toUInt16.toUInt32.toInt32) = x1) (hx2 : ((p5 &&& (255 : Int32)).toUInt32.toUInt16.toUInt32.toInt32) = x2) (hlo_x0 : (-1 : Int32) < x0) (hhi_x0 : x0 < (256 : Int32)) (hlo_x1 : (-1 : Int32) < x1) (hhi_x1 : x1 < (256 : Int32)) (hlo_x2 : (-1 : Int32) < x2) (hhi_x2 : x2 < (256 : Int32)) (S_COMPACT_STRINGS : Sta Z h0 "java/lang/String" "COMPACT_STRINGS" "Z" (.int w_COMPACT_STRINGS)) (hc30 : ¬ (w_COMPACT_STRINGS = (0 : Int32))) :
    ∃ (T' : State) (h' : Heap) (L' : List Loc) (vm' : Vm) (k' : Nat) (b1c1 : Addr), Stand p l e room_1 (s.setVm vm') m args below meth c T' L' 4 10 ∧ T'.heap = h' ∧ Keep h0 h' [] ∧ Fr n0 L' ∧ s.Since vm' k' ∧ k' ≤ h'.size ∧ Z.Warmed39 (s.setVm vm').vm ∧ (s.setVm vm').vm.findClass "com/example/stanza_filter/stanzafilter/engine/PrivacyItemGroupPinLaw" = some m.cls ∧ h0.size ≤ b1c1 ∧ Exa Z h' b1c1 "java/lang/String" ∧ ∀ target, Steps p.tables e below (T'.setTop (mkF m 133 #[.val (.long q1), .second, .val (.int p2), .val (.int p3), .val (.int p4), .val (.int p5), .val (.long ord), .second, .val (.ref act), .val (.int sc), .val scv, .val (.int 3), .val (.int x0), .val (.int x1), .val (.int x2), .val (.ref b1c1), .unset] [])) target → Steps p.tables e below (T0.setTop (mkF m 87 #[.val (.long q1), .second, .val (.int p2), .val (.int p3), .val (.int p4), .val (.int p5), .val (.long ord), .second, .val (.ref act), .val (.int sc), .val scv, .unset, .unset, .unset, .unset, .unset, .unset] [])) target := by
  obtain ⟨_, _, ⟨T1, L1, k1, n1⟩, -, X1, ⟨Lc1, hQ1, l1, y1, z1⟩, st1⟩ := Jvm.LawKit.callS X0 hx (y := (⟨"com/example/stanza_filter/stanzafilter/engine/PrivacyItemGroupPinLaw", "makeString", "(ICCC)Ljava/lang/String;"⟩ : MethodName)) hown (mvT hZ (hw _ (List.mem_of_getElem? (i := 7) rfl))) (mvT hZ (hw _ (List.mem_of_getElem? (i := 8) rfl))) (mvT hZ (hw _ (List.mem_of_getElem? (i := 9) rfl))) (mvT hZ (hw _ (List.mem_of_getElem? (i := 10) rfl))) (by decide) (backOf (W := 0) (rm1_3_x0_x1_x2_m1_256_m1_256_m1_256 l Z a0 hw [] x0 x1 x2 w_COMPACT_STRINGS h0 n0 Z0 hlo_x0 hhi_x0 hlo_x1 hhi_x1 hlo_x2 hhi_x2 S_COMPACT_STRINGS hc30) hZ (hw _ (List.mem_of_getElem? (i := 10) rfl)) (hw _ (List.mem_of_getElem? (i := 9) rfl)) (by decide) (by decide)) (g := (mkF m 128 #[.val (.long q1), .second, .val (.int p2), .val (.int p3), .val (.int p4), .val (.int p5), .val (.long ord), .second, .val (.ref act), .val (.int sc), .val scv, .val (.int 3), .val (.int x0), .val (.int x1), .val (.int x2), .unset, .unset] [(.int x2), (.int x1), (.int x0), (.int 3)])) rfl (by rw [hml]; rfl) (argsL := [(.int 3), (.int x0), (.int x1), (.int x2)]) (rest := []) (lenOf pd__ICCC_Ljava_lang_String_ rfl) rfl (by show 2 * 0 + _ ≤ _; exact Nat.le_of_eq rfl) (hb hby at_128) (fun _ _ => ⟨rfl, e0, (by decide : 0 + 3 ≤ _), (by decide : 0 + 10 ≤ _)⟩)
  dsimp only [Pt.U, Pt.locs, Pt.cells, Pt.slots] at X1 l1 y1 z1 st1 hQ1
  subst l1 y1 z1
  obtain ⟨b1c1, b1c2, kc1kd3, rfl, N1q, Kq1, s_b1c1, s_b1c2, nq_b1c1_b1c2, fq1_0, fq1_1, fq1_2, fq1_3⟩ := hQ1
  have N1 := Fr.app N0 N1q
  have g_b1c1 : n0 ≤ b1c1 := Nat.le_trans Z0 s_b1c1
  have sz_b1c1 : h0.size ≤ b1c1 := s_b1c1
  have g_b1c2 : n0 ≤ b1c2 := Nat.le_trans Z0 s_b1c2
  have sz_b1c2 : h0.size ≤ b1c2 := s_b1c2
  have K1 : Keep h0 T1.heap [] := (Keep.refl h0 []).trans Kq1 all0
  have hZ2 : Z.Warmed39 T1.vm := wtrans hZ X1.warmed
  have hown2 : T1.vm.findClass "com/example/stanza_filter/stanzafilter/engine/PrivacyItemGroupPinLaw" = some m.cls := by rw [X1.warmed.alike.findClass]; exact hown
  have hS2 : s.Since T1.vm T1.heap.size := X1.warmed.since _
  have hk2 : T1.heap.size ≤ T1.heap.size := own_geT rfl
  have XR2 : Stand p l e _ (s.setVm T1.vm) m _ below meth c T1 _ _ _ := X1.retabled X1.warmed.wide
  refine ⟨T1, _, _, _, _, b1c1, (XR2.mono (by decide) (by decide)), rfl, K1, N1, hS2, hk2, hZ2, hown2, sz_b1c1, fq1_0, fun target kt => ?_⟩
  show Steps p.tables e below (T0.setTop (mkF m 87 #[.val (.long q1), .second, .val (.int p2), .val (.int p3), .val (.int p4), .val (.int p5), .val (.long ord), .second, .val (.ref act), .val (.int sc), .val scv, .unset, .unset, .unset, .unset, .unset, .unset] [])) _
  refine XS.iloadN X0.here hx rfl (hb hby at_87) rfl ?_
  show Steps p.tables e below (T0.setTop (mkF m 88 #[.val (.long q1), .second, .val (.int p2), .val (.int p3), .val (.int p4), .val (.int p5), .val (.long ord), .second, .val (.ref act), .val (.int sc), .val scv, .unset, .unset, .unset, .unset, .unset, .unset] [(.int p2)])) _
  refine XS.iconst X0.here hx rfl (hb hby at_88) ?_
  show Steps p.tables e below (T0.setTop (mkF m 89 #[.val (.long q1), .second, .val (.int p2), .val (.int p3), .val (.int p4), .val (.int p5), .val (.long ord), .second, .val (.ref act), .val (.int sc), .val scv, .unset, .unset, .unset, .unset, .unset, .unset] [(.int 4), (.int p2)])) _
  refine XS.iushr X0.here hx rfl (hb hby at_89) rfl ?_
  show Steps p.tables e below (T0.setTop (mkF m 90 #[.val (.long q1), .second, .val (.int p2), .val (.int p3), .val (.int p4), .val (.int p5), .val (.long ord), .second, .val (.ref act), .val (.int sc), .val scv, .unset, .unset, .unset, .unset, .unset, .unset] [(.int ((p2.toUInt32 >>> ((4 : Int32) &&& 31).toUInt32).toInt32))])) _
  refine XS.iconst X0.here hx rfl (hb hby at_90) ?_
  show Steps p.tables e below (T0.setTop (mkF m 91 #[.val (.long q1), .second, .val (.int p2), .val (.int p3), .val (.int p4), .val (.int p5), .val (.long ord), .second, .val (.ref act), .val (.int sc), .val scv, .unset, .unset, .unset, .unset, .unset, .unset] [(.int 3), (.int ((p2.toUInt32 >>> ((4 : Int32) &&& 31).toUInt32).toInt32))])) _
  refine XS.iand X0.here hx rfl (hb hby at_91) rfl ?_
  show Steps p.tables e below (T0.setTop (mkF m 92 #[.val (.long q1), .second, .val (.int p2), .val (.int p3), .val (.int p4), .val (.int p5), .val (.long ord), .second, .val (.ref act), .val (.int sc), .val scv, .unset, .unset, .unset, .unset, .unset, .unset] [(.int (((p2.toUInt32 >>> ((4 : Int32) &&& 31).toUInt32).toInt32) &&& (3 : Int32)))])) _
  rw [hln]
  show Steps p.tables e below (T0.setTop (mkF m 92 #[.val (.long q1), .second, .val (.int p2), .val (.int p3), .val (.int p4), .val (.int p5), .val (.long ord), .second, .val (.ref act), .val (.int sc), .val scv, .unset, .unset, .unset, .unset, .unset, .unset] [(.int 3)])) _
  refine XS.istore X0.here hx rfl (hb hby at_92) rfl (l' := #[.val (.long q1), .second, .val (.int p2), .val (.int p3), .val (.int p4), .val (.int p5), .val (.long ord), .second, .val (.ref act), .val (.int sc), .val scv, .val (.int 3), .unset, .unset, .unset, .unset, .unset]) rfl ?_
  show Steps p.tables e below (T0.setTop (mkF m 94 #[.val (.long q1), .second, .val (.int p2), .val (.int p3), .val (.int p4), .val (.int p5), .val (.long ord), .second, .val (.ref act), .val (.int sc), .val scv, .val (.int 3), .unset, .unset, .unset, .unset, .unset] [])) _
  refine XS.iloadN X0.here hx rfl (hb hby at_94) rfl ?_
  show Steps p.tables e below (T0.setTop (mkF m 95 #[.val (.long q1), .second, .val (.int p2), .val (.int p3), .val (.int p4), .val (.int p5), .val (.long ord), .second, .val (.ref act), .val (.int sc), .val scv, .val (.int 3), .unset, .unset, .unset, .unset, .unset] [(.int p3)])) _
  refine XS.sipush X0.here hx rfl (hb hby at_95) ?_
  show Steps p.tables e below (T0.setTop (mkF m 98 #[.val (.long q1), .second, .val (.int p2), .val (.int p3), .val (.int p4), .val (.int p5), .val (.long ord), .second, .val (.ref act), .val (.int sc), .val scv, .val (.int 3), .unset, .unset, .unset, .unset, .unset] [(.int 255), (.int p3)])) _
  refine XS.iand X0.here hx rfl (hb hby at_98) rfl ?_
  show Steps p.tables e below (T0.setTop (mkF m 99 #[.val (.long q1), .second, .val (.int p2), .val (.int p3), .val (.int p4), .val (.int p5), .val (.long ord), .second, .val (.ref act), .val (.int sc), .val scv, .val (.int 3), .unset, .unset, .unset, .unset, .unset] [(.int (p3 &&& (255 : Int32)))])) _
  refine XS.i2c X0.here hx rfl (hb hby at_99) rfl ?_
  show Steps p.tables e below (T0.setTop (mkF m 100 #[.val (.long q1), .second, .val (.int p2), .val (.int p3), .val (.int p4), .val (.int p5), .val (.long ord), .second, .val (.ref act), .val (.int sc), .val scv, .val (.int 3), .unset, .unset, .unset, .unset, .unset] [(.int ((p3 &&& (255 : Int32)).toUInt32.toUInt16.toUInt32.toInt32))])) _
  rw [hx0]
  show Steps p.tables e below (T0.setTop (mkF m 100 #[.val (.long q1), .second, .val (.int p2), .val (.int p3), .val (.int p4), .val (.int p5), .val (.long ord), .second, .val (.ref act), .val (.int sc), .val scv, .val (.int 3), .unset, .unset, .unset, .unset, .unset] [(.int x0)])) _
  refine XS.istore X0.here hx rfl (hb hby at_100) rfl (l' := #[.val (.long q1), .second, .val (.int p2), .val (.int p3), .val (.int p4), .val (.int p5), .val (.long ord), .second, .val (.ref act), .val (.int sc), .val scv, .val (.int 3), .val (.int x0), .unset, .unset, .unset, .unset]) rfl ?_
  show Steps p.tables e below (T0.setTop (mkF m 102 #[.val (.long q1), .second, .val (.int p2), .val (.int p3), .val (.int p4), .val (.int p5), .val (.long ord), .second, .val (.ref act), .val (.int sc), .val scv, .val (.int 3), .val (.int x0), .unset, .unset, .unset, .unset] [])) _
  refine XS.iload X0.here hx rfl (hb hby at_102) rfl ?_
  show Steps p.tables e below (T0.setTop (mkF m 104 #[.val (.long q1), .second, .val (.int p2), .val (.int p3), .val (.int p4), .val (.int p5), .val (.long ord), .second, .val (.ref act), .val (.int sc), .val scv, .val (.int 3), .val (.int x0), .unset, .unset, .unset, .unset] [(.int p4)])) _
  refine XS.sipush X0.here hx rfl (hb hby at_104) ?_
  show Steps p.tables e below (T0.setTop (mkF m 107 #[.val (.long q1), .second, .val (.int p2), .val (.int p3), .val (.int p4), .val (.int p5), .val (.long ord), .second, .val (.ref act), .val (.int sc), .val scv, .val (.int 3), .val (.int x0), .unset, .unset, .unset, .unset] [(.int 255), (.int p4)])) _
  refine XS.iand X0.here hx rfl (hb hby at_107) rfl ?_
  show Steps p.tables e below (T0.setTop (mkF m 108 #[.val (.long q1), .second, .val (.int p2), .val (.int p3), .val (.int p4), .val (.int p5), .val (.long ord), .second, .val (.ref act), .val (.int sc), .val scv, .val (.int 3), .val (.int x0), .unset, .unset, .unset, .unset] [(.int (p4 &&& (255 : Int32)))])) _
  refine XS.i2c X0.here hx rfl (hb hby at_108) rfl ?_
  show Steps p.tables e below (T0.setTop (mkF m 109 #[.val (.long q1), .second, .val (.int p2), .val (.int p3), .val (.int p4), .val (.int p5), .val (.long ord), .second, .val (.ref act), .val (.int sc), .val scv, .val (.int 3), .val (.int x0), .unset, .unset, .unset, .unset] [(.int ((p4 &&& (255 : Int32)).toUInt32.toUInt16.toUInt32.toInt32))])) _
  rw [hx1]
  show Steps p.tables e below (T0.setTop (mkF m 109 #[.val (.long q1), .second, .val (.int p2), .val (.int p3), .val (.int p4), .val (.int p5), .val (.long ord), .second, .val (.ref act), .val (.int sc), .val scv, .val (.int 3), .val (.int x0), .unset, .unset, .unset, .unset] [(.int x1)])) _
  refine XS.istore X0.here hx rfl (hb hby at_109) rfl (l' := #[.val (.long q1), .second, .val (.int p2), .val (.int p3), .val (.int p4), .val (.int p5), .val (.long ord), .second, .val (.ref act), .val (.int sc), .val scv, .val (.int 3), .val (.int x0), .val (.int x1), .unset, .unset, .unset]) rfl ?_
  show Steps p.tables e below (T0.setTop (mkF m 111 #[.val (.long q1), .second, .val (.int p2), .val (.int p3), .val (.int p4), .val (.int p5), .val (.long ord), .second, .val (.ref act), .val (.int sc), .val scv, .val (.int 3), .val (.int x0), .val (.int x1), .unset, .unset, .unset] [])) _
  refine XS.iload X0.here hx rfl (hb hby at_111) rfl ?_
  show Steps p.tables e below (T0.setTop (mkF m 113 #[.val (.long q1), .second, .val (.int p2), .val (.int p3), .val (.int p4), .val (.int p5), .val (.long ord), .second, .val (.ref act), .val (.int sc), .val scv, .val (.int 3), .val (.int x0), .val (.int x1), .unset, .unset, .unset] [(.int p5)])) _
  refine XS.sipush X0.here hx rfl (hb hby at_113) ?_
  show Steps p.tables e below (T0.setTop (mkF m 116 #[.val (.long q1), .second, .val (.int p2), .val (.int p3), .val (.int p4), .val (.int p5), .val (.long ord), .second, .val (.ref act), .val (.int sc), .val scv, .val (.int 3), .val (.int x0), .val (.int x1), .unset, .unset, .unset] [(.int 255), (.int p5)])) _
  refine XS.iand X0.here hx rfl (hb hby at_116) rfl ?_
  show Steps p.tables e below (T0.setTop (mkF m 117 #[.val (.long q1), .second, .val (.int p2), .val (.int p3), .val (.int p4), .val (.int p5), .val (.long ord), .second, .val (.ref act), .val (.int sc), .val scv, .val (.int 3), .val (.int x0), .val (.int x1), .unset, .unset, .unset] [(.int (p5 &&& (255 : Int32)))])) _
  refine XS.i2c X0.here hx rfl (hb hby at_117) rfl ?_
  show Steps p.tables e below (T0.setTop (mkF m 118 #[.val (.long q1), .second, .val (.int p2), .val (.int p3), .val (.int p4), .val (.int p5), .val (.long ord), .second, .val (.ref act), .val (.int sc), .val scv, .val (.int 3), .val (.int x0), .val (.int x1), .unset, .unset, .unset] [(.int ((p5 &&& (255 : Int32)).toUInt32.toUInt16.toUInt32.toInt32))])) _
  rw [hx2]
  show Steps p.tables e below (T0.setTop (mkF m 118 #[.val (.long q1), .second, .val (.int p2), .val (.int p3), .val (.int p4), .val (.int p5), .val (.long ord), .second, .val (.ref act), .val (.int sc), .val scv, .val (.int 3), .val (.int x0), .val (.int x1), .unset, .unset, .unset] [(.int x2)])) _
  refine XS.istore X0.here hx rfl (hb hby at_118) rfl (l' := #[.val (.long q1), .second, .val (.int p2), .val (.int p3), .val (.int p4), .val (.int p5), .val (.long ord), .second, .val (.ref act), .val (.int sc), .val scv, .val (.int 3), .val (.int x0), .val (.int x1), .val (.int x2), .unset, .unset]) rfl ?_
  show Steps p.tables e below (T0.setTop (mkF m 120 #[.val (.long q1), .second, .val (.int p2), .val (.int p3), .val (.int p4), .val (.int p5), .val (.long ord), .second, .val (.ref act), .val (.int sc), .val scv, .val (.int 3), .val (.int x0), .val (.int x1), .val (.int x2), .unset, .unset] [])) _
  refine XS.iload X0.here hx rfl (hb hby at_120) rfl ?_
  show Steps p.tables e below (T0.setTop (mkF m 122 #[.val (.long q1), .second, .val (.int p2), .val (.int p3), .val (.int p4), .val (.int p5), .val (.long ord), .second, .val (.ref act), .val (.int sc), .val scv, .val (.int 3), .val (.int x0), .val (.int x1), .val (.int x2), .unset, .unset] [(.int 3)])) _
  refine XS.iload X0.here hx rfl (hb hby at_122) rfl ?_
  show Steps p.tables e below (T0.setTop (mkF m 124 #[.val (.long q1), .second, .val (.int p2), .val (.int p3), .val (.int p4), .val (.int p5), .val (.long ord), .second, .val (.ref act), .val (.int sc), .val scv, .val (.int 3), .val (.int x0), .val (.int x1), .val (.int x2), .unset, .unset] [(.int x0), (.int 3)])) _
  refine XS.iload X0.here hx rfl (hb hby at_124) rfl ?_
  show Steps p.tables e below (T0.setTop (mkF m 126 #[.val (.long q1), .second, .val (.int p2), .val (.int p3), .val (.int p4), .val (.int p5), .val (.long ord), .second, .val (.ref act), .val (.int sc), .val scv, .val (.int 3), .val (.int x0), .val (.int x1), .val (.int x2), .unset, .unset] [(.int x1), (.int x0), (.int 3)])) _
  refine XS.iload X0.here hx rfl (hb hby at_126) rfl ?_
  show Steps p.tables e below (T0.setTop (mkF m 128 #[.val (.long q1), .second, .val (.int p2), .val (.int p3), .val (.int p4), .val (.int p5), .val (.long ord), .second, .val (.ref act), .val (.int sc), .val scv, .val (.int 3), .val (.int x0), .val (.int x1), .val (.int x2), .unset, .unset] [(.int x2), (.int x1), (.int x0), (.int 3)])) _
  refine st1 _ ?_
  show Steps p.tables e below (T1.setTop (mkF m 131 #[.val (.long q1), .second, .val (.int p2), .val (.int p3), .val (.int p4), .val (.int p5), .val (.long ord), .second, .val (.ref act), .val (.int sc), .val scv, .val (.int 3), .val (.int x0), .val (.int x1), .val (.int x2), .unset, .unset] [(.ref b1c1)])) _
  refine XS.astore X1.here hx rfl (hb hby at_131) rfl rfl (l' := #[.val (.long q1), .second, .val (.int p2), .val (.int p3), .val (.int p4), .val (.int p5), .val (.long ord), .second, .val (.ref act), .val (.int sc), .val scv, .val (.int 3), .val (.int x0), .val (.int x1), .val (.int x2), .val (.ref b1c1), .unset]) rfl ?_
  show Steps p.tables e below (T1.setTop (mkF m 133 #[.val (.long q1), .second, .val (.int p2), .val (.int p3), .val (.int p4), .val (.int p5), .val (.long ord), .second, .val (.ref act), .val (.int sc), .val scv, .val (.int 3), .val (.int x0), .val (.int x1), .val (.int x2), .val (.ref b1c1), .unset] [])) _
  exact kt
def Q6_o1_o2 (Z : State) (o1 : Addr) (o2 : Addr) (h0 : Heap) (n0 : Nat) (v : Option Value) (h : Heap) (L : List Loc) : Prop := v = some (.ref o1) ∧ Fr n0 L ∧ h = h0
set_option maxRecDepth 65536 in
set_option maxHeartbeats 40000000 in
theorem rm6_o1_o2 (l : Launch) (Z : State) (a0 : Array Value) (hw : ∀ d ∈ tables_1, d.before a0 Z = true) (ws : List Jvm.Cond) (o1 : Addr) (o2 : Addr) (h0 : Heap) (n0 : Nat) (Z0 : n0 ≤ h0.size) :
    MetFree l (⟨"java/util/Objects", "requireNonNull", "(Ljava/lang/Object;Ljava/lang/String;)Ljava/lang/Object;"⟩ : MethodName) (head1 (Jvm.Cond.code (⟨"java/util/Objects", "requireNonNull", "(Ljava/lang/Object;Ljava/lang/String;)Ljava/lang/Object;"⟩ : MethodName) jdk_31_method_11_code 2 (some (.object "java/lang/Object")) :: ws) ({ frames := 0, cells := 0, slots := 0, locals := 0 } : Room)) (fun a U => a = #[(.ref o1), (.ref o2)] ∧ Z.Warmed39 U.vm ∧ U.heap = h0) (fun _ _ _ _ _ => True) (fun _ U o U' => ∃ v L, o = .returned v ∧ Q6_o1_o2 Z o1 o2 h0 n0 v U'.heap L ∧ FrameEnd U o U' L ({ frames := 0, cells := 0, slots := 0, locals := 0 } : Room).cells ({ frames := 0, cells := 0, slots := 0, locals := 0 } : Room).slots) := by
  refine MetFree.of_bodySF (plainFor_of_name pn_6) hisR ?_
  intro p e s m args below meth c s₁ Bd hml0 hP hK
  obtain ⟨rfl, hZ, hh⟩ := hP
  have hx := Bd.exec
  have hby := Bd.bytes
  have hml : c.maxLocals = 2 := hml0
  have hown : s.vm.findClass "java/util/Objects" = some m.cls := findClass_of_methodNamed Bd.named
  have hnm := (name_of_methodNamed Bd.named Bd.method).1
  have X0 : Stand p l e ({ frames := 0, cells := 0, slots := 0, locals := 0 } : Room) s m #[(.ref o1), (.ref o2)] below meth c s₁ [] 0 0 := Stand.of_body Bd
  have e0 : s₁.heap = h0 := by rw [← hh, Bd.state]; rfl
  have N0 := Fr.nil n0
  have pre0 : ∀ t, Steps p.tables e below (s₁.setTop (mkF m 0 #[.val (.ref o1), .val (.ref o2)] [])) t → Steps p.tables e below (s₁.setTop (entryFrame m #[(.ref o1), (.ref o2)] 2)) t := fun t k => castTop (by first | (simp [entryFrame, mkF, argsToLocals, Value.category]; done) | rfl) k
  obtain ⟨fs, hr, hrun, hended, hW, hsame⟩ := X0.leave (v := some (.ref o1)) (fun h => by rw [Bd.returns] at h; cases h)
  refine ⟨_, _, pre0 _ ?_, hrun, hended, _, _, rfl, ?_, ⟨_, rfl⟩, hW, hsame.mono (by decide) (by decide)⟩
  · show Steps p.tables e below (s₁.setTop (mkF m 0 #[.val (.ref o1), .val (.ref o2)] [])) _
    refine XS.aloadN X0.here hx rfl (hb hby d6_0) rfl rfl ?_
    show Steps p.tables e below (s₁.setTop (mkF m 1 #[.val (.ref o1), .val (.ref o2)] [(.ref o1)])) _
    refine XS.ifnonnullYes X0.here hx rfl (pc0 := 1) (pc' := 13) rfl (hb hby d6_1) rfl (by decide) (by decide) ?_
    show Steps p.tables e below (s₁.setTop (mkF m 13 #[.val (.ref o1), .val (.ref o2)] [])) _
    refine XS.aloadN X0.here hx rfl (hb hby d6_13) rfl rfl ?_
    show Steps p.tables e below (s₁.setTop (mkF m 14 #[.val (.ref o1), .val (.ref o2)] [(.ref o1)])) _
    jvm_step X0.here [X0.here.top, hx, (hb hby d6_14), X0.method', Bd.returns, Value.isRef, FieldType.isReference]
    first | (intro acts; rw [hr _ acts rfl rfl rfl]) | rw [hr _ _ rfl rfl rfl]
    exact Steps.refl _
  · show Q6_o1_o2 Z o1 o2 h0 n0 _ s₁.heap _
    rw [e0]
    exact ⟨rfl, N0, rfl⟩
def Q7_u (Z : State) (w_EMPTY_SET : Addr) (h0 : Heap) (n0 : Nat) (v : Option Value) (h : Heap) (L : List Loc) : Prop := v = some (.ref w_EMPTY_SET) ∧ Fr n0 L ∧ h = h0
set_option maxRecDepth 65536 in
set_option maxHeartbeats 40000000 in
theorem rm7_u (l : Launch) (Z : State) (a0 : Array Value) (hw : ∀ d ∈ tables_1, d.before a0 Z = true) (ws : List Jvm.Cond) (w_EMPTY_SET : Addr) (h0 : Heap) (n0 : Nat) (Z0 : n0 ≤ h0.size) (S_EMPTY_SET : Sta Z h0 "java/util/ImmutableCollections" "EMPTY_SET" "Ljava/util/ImmutableCollections$SetN;" (.ref w_EMPTY_SET)) :
    MetFree l (⟨"java/util/Set", "of", "()Ljava/util/Set;"⟩ : MethodName) (head1 (Jvm.Cond.code (⟨"java/util/Set", "of", "()Ljava/util/Set;"⟩ : MethodName) jdk_96_method_17_code 0 (some (.object "java/util/Set")) :: ws) ({ frames := 0, cells := 0, slots := 0, locals := 0 } : Room)) (fun a U => a = #[] ∧ Z.Warmed39 U.vm ∧ U.heap = h0) (fun _ _ _ _ _ => True) (fun _ U o U' => ∃ v L, o = .returned v ∧ Q7_u Z w_EMPTY_SET h0 n0 v U'.heap L ∧ FrameEnd U o U' L ({ frames := 0, cells := 0, slots := 0, locals := 0 } : Room).cells ({ frames := 0, cells := 0, slots := 0, locals := 0 } : Room).slots) := by
  refine MetFree.of_bodySF (plainFor_of_name pn_7) hisR ?_
  intro p e s m args below meth c s₁ Bd hml0 hP hK
  obtain ⟨rfl, hZ, hh⟩ := hP
  have hx := Bd.exec
  have hby := Bd.bytes
  have hml : c.maxLocals = 0 := hml0
  have hown : s.vm.findClass "java/util/Set" = some m.cls := findClass_of_methodNamed Bd.named
  have hnm := (name_of_methodNamed Bd.named Bd.method).1
  have X0 : Stand p l e ({ frames := 0, cells := 0, slots := 0, locals := 0 } : Room) s m #[] below meth c s₁ [] 0 0 := Stand.of_body Bd
  have e0 : s₁.heap = h0 := by rw [← hh, Bd.state]; rfl
  have N0 := Fr.nil n0
  have pre0 : ∀ t, Steps p.tables e below (s₁.setTop (mkF m 0 #[] [])) t → Steps p.tables e below (s₁.setTop (entryFrame m #[] 0)) t := fun t k => castTop (by first | (simp [entryFrame, mkF, argsToLocals, Value.category]; done) | rfl) k
  obtain ⟨T1, X1, e1, st1⟩ := getS2 X0 hx hZ hown (host := "") (Or.inl (hw _ (List.mem_of_getElem? (i := 49) rfl))) Via.refl e0 S_EMPTY_SET (g := (mkF m 0 #[] [])) rfl (hb hby d7_0)
  obtain ⟨fs, hr, hrun, hended, hW, hsame⟩ := X1.leave (v := some (.ref w_EMPTY_SET)) (fun h => by rw [Bd.returns] at h; cases h)
  refine ⟨_, _, pre0 _ ?_, hrun, hended, _, _, rfl, ?_, ⟨_, rfl⟩, hW, hsame.mono (by decide) (by decide)⟩
  · show Steps p.tables e below (s₁.setTop (mkF m 0 #[] [])) _
    refine st1 _ ?_
    show Steps p.tables e below (T1.setTop (mkF m 3 #[] [(.ref w_EMPTY_SET)])) _
    jvm_step X1.here [X1.here.top, hx, (hb hby d7_3), X1.method', Bd.returns, Value.isRef, FieldType.isReference]
    first | (intro acts; rw [hr _ acts rfl rfl rfl]) | rw [hr _ _ rfl rfl rfl]
    exact Steps.refl _
  · show Q7_u Z w_EMPTY_SET h0 n0 _ T1.heap _
    rw [e1]
    exact ⟨rfl, N0, rfl⟩
def Q6_act_o1 (Z : State) (act : Addr) (o1 : Addr) (h0 : Heap) (n0 : Nat) (v : Option Value) (h : Heap) (L : List Loc) : Prop := v = some (.ref act) ∧ Fr n0 L ∧ h = h0
set_option maxRecDepth 65536 in
set_option maxHeartbeats 40000000 in
theorem rm6_act_o1 (l : Launch) (Z : State) (a0 : Array Value) (hw : ∀ d ∈ tables_1, d.before a0 Z = true) (ws : List Jvm.Cond) (act : Addr) (o1 : Addr) (h0 : Heap) (n0 : Nat) (Z0 : n0 ≤ h0.size) :
    MetFree l (⟨"java/util/Objects", "requireNonNull", "(Ljava/lang/Object;Ljava/lang/String;)Ljava/lang/Object;"⟩ : MethodName) (head1 (Jvm.Cond.code (⟨"java/util/Objects", "requireNonNull", "(Ljava/lang/Object;Ljava/lang/String;)Ljava/lang/Object;"⟩ : MethodName) jdk_31_method_11_code 2 (some (.object "java/lang/Object")) :: ws) ({ frames := 0, cells := 0, slots := 0, locals := 0 } : Room)) (fun a U => a = #[(.ref act), (.ref o1)] ∧ Z.Warmed39 U.vm ∧ U.heap = h0) (fun _ _ _ _ _ => True) (fun _ U o U' => ∃ v L, o = .returned v ∧ Q6_act_o1 Z act o1 h0 n0 v U'.heap L ∧ FrameEnd U o U' L ({ frames := 0, cells := 0, slots := 0, locals := 0 } : Room).cells ({ frames := 0, cells := 0, slots := 0, locals := 0 } : Room).slots) := by
  refine MetFree.of_bodySF (plainFor_of_name pn_6) hisR ?_
  intro p e s m args below meth c s₁ Bd hml0 hP hK
  obtain ⟨rfl, hZ, hh⟩ := hP
  have hx := Bd.exec
  have hby := Bd.bytes
  have hml : c.maxLocals = 2 := hml0
  have hown : s.vm.findClass "java/util/Objects" = some m.cls := findClass_of_methodNamed Bd.named
  have hnm := (name_of_methodNamed Bd.named Bd.method).1
  have X0 : Stand p l e ({ frames := 0, cells := 0, slots := 0, locals := 0 } : Room) s m #[(.ref act), (.ref o1)] below meth c s₁ [] 0 0 := Stand.of_body Bd
  have e0 : s₁.heap = h0 := by rw [← hh, Bd.state]; rfl
  have N0 := Fr.nil n0
  have pre0 : ∀ t, Steps p.tables e below (s₁.setTop (mkF m 0 #[.val (.ref act), .val (.ref o1)] [])) t → Steps p.tables e below (s₁.setTop (entryFrame m #[(.ref act), (.ref o1)] 2)) t := fun t k => castTop (by first | (simp [entryFrame, mkF, argsToLocals, Value.category]; done) | rfl) k
  obtain ⟨fs, hr, hrun, hended, hW, hsame⟩ := X0.leave (v := some (.ref act)) (fun h => by rw [Bd.returns] at h; cases h)
  refine ⟨_, _, pre0 _ ?_, hrun, hended, _, _, rfl, ?_, ⟨_, rfl⟩, hW, hsame.mono (by decide) (by decide)⟩
  · show Steps p.tables e below (s₁.setTop (mkF m 0 #[.val (.ref act), .val (.ref o1)] [])) _
    refine XS.aloadN X0.here hx rfl (hb hby d6_0) rfl rfl ?_
    show Steps p.tables e below (s₁.setTop (mkF m 1 #[.val (.ref act), .val (.ref o1)] [(.ref act)])) _
    refine XS.ifnonnullYes X0.here hx rfl (pc0 := 1) (pc' := 13) rfl (hb hby d6_1) rfl (by decide) (by decide) ?_
    show Steps p.tables e below (s₁.setTop (mkF m 13 #[.val (.ref act), .val (.ref o1)] [])) _
    refine XS.aloadN X0.here hx rfl (hb hby d6_13) rfl rfl ?_
    show Steps p.tables e below (s₁.setTop (mkF m 14 #[.val (.ref act), .val (.ref o1)] [(.ref act)])) _
    jvm_step X0.here [X0.here.top, hx, (hb hby d6_14), X0.method', Bd.returns, Value.isRef, FieldType.isReference]
    first | (intro acts; rw [hr _ acts rfl rfl rfl]) | rw [hr _ _ rfl rfl rfl]
    exact Steps.refl _
  · show Q6_act_o1 Z act o1 h0 n0 _ s₁.heap _
    rw [e0]
    exact ⟨rfl, N0, rfl⟩
def Q8_o1_null_o2_null_act_ord_w_EMPTY_SET (Z : State) (o1 : Addr) (o2 : Addr) (act : Addr) (ord : Int64) (w_EMPTY_SET : Addr) (h0 : Heap) (n0 : Nat) (v : Option Value) (h : Heap) (L : List Loc) : Prop := v = none ∧ Fr n0 L ∧ Keep h0 h [o1] ∧ Exa Z h o1 "com/example/stanza_filter/stanzafilter/engine/PrivacyItem" ∧ Fld Z h o1 "com/example/stanza_filter/stanzafilter/engine/PrivacyItem" "jid" "Lcom/example/stanza_filter/stanzafilter/engine/Jid;" .null ∧ Fld Z h o1 "com/example/stanza_filter/stanzafilter/engine/PrivacyItem" "group" "Ljava/lang/String;" (.ref o2) ∧ Fld Z h o1 "com/example/stanza_filter/stanzafilter/engine/PrivacyItem" "subscription" "Lcom/example/stanza_filter/stanzafilter/engine/Subscription;" .null ∧ Fld Z h o1 "com/example/stanza_filter/stanzafilter/engine/PrivacyItem" "action" "Lcom/example/stanza_filter/stanzafilter/engine/Action;" (.ref act) ∧ Fld Z h o1 "com/example/stanza_filter/stanzafilter/engine/PrivacyItem" "order" "J" (.long ord) ∧ Fld Z h o1 "com/example/stanza_filter/stanzafilter/engine/PrivacyItem" "scopes" "Ljava/util/Set;" (.ref w_EMPTY_SET)
set_option maxRecDepth 65536 in
set_option maxHeartbeats 40000000 in
theorem rm8_o1_null_o2_null_act_ord_w_EMPTY_SET (l : Launch) (Z : State) (a0 : Array Value) (hw : ∀ d ∈ tables_1, d.before a0 Z = true) (ws : List Jvm.Cond) (o1 : Addr) (o2 : Addr) (act : Addr) (ord : Int64) (w_EMPTY_SET : Addr) (h0 : Heap) (n0 : Nat) (Z0 : n0 ≤ h0.size) (hc16 : ¬ ((lcmpW ord (0 : Int64)) < (0 : Int32))) (hc25 : ¬ ((0 : Int32) < (lcmpW ord (4294967295 : Int64)))) (E_o1 : Exa Z h0 o1 "com/example/stanza_filter/stanzafilter/engine/PrivacyItem") (F_jid_o1 : Fld Z h0 o1 "com/example/stanza_filter/stanzafilter/engine/PrivacyItem" "jid" "Lcom/example/stanza_filter/stanzafilter/engine/Jid;" .null) (g_o1 : n0 ≤ o1) (F_group_o1 : Fld Z h0 o1 "com/example/stanza_filter/stanzafilter/engine/PrivacyItem" "group" "Ljava/lang/String;" .null) (F_subscription_o1 : Fld Z h0 o1 "com/example/stanza_filter/stanzafilter/engine/PrivacyItem" "subscription" "Lcom/example/stanza_filter/stanzafilter/engine/Subscription;" .null) (F_action_o1 : Fld Z h0 o1 "com/example/stanza_filter/stanzafilter/engine/PrivacyItem" "action" "Lcom/example/stanza_filter/stanzafilter/engine/Action;" .null) (F_order_o1 : Fld Z h0 o1 "com/example/stanza_filter/stanzafilter/engine/PrivacyItem" "order" "J" (.long 0)) (F_scopes_o1 : Fld Z h0 o1 "com/example/stanza_filter/stanzafilter/engine/PrivacyItem" "scopes" "Ljava/util/Set;" .null) :
    MetFree l (⟨"com/example/stanza_filter/stanzafilter/engine/PrivacyItem", "<init>", "(Lcom/example/stanza_filter/stanzafilter/engine/Jid;Ljava/lang/String;Lcom/example/stanza_filter/stanzafilter/engine/Subscription;Lcom/example/stanza_filter/stanzafilter/engine/Action;JLjava/util/Set;)V"⟩ : MethodName) (head1 (Jvm.Cond.code (⟨"com/example/stanza_filter/stanzafilter/engine/PrivacyItem", "<init>", "(Lcom/example/stanza_filter/stanzafilter/engine/Jid;Ljava/lang/String;Lcom/example/stanza_filter/stanzafilter/engine/Subscription;Lcom/example/stanza_filter/stanzafilter/engine/Action;JLjava/util/Set;)V"⟩ : MethodName) prog_9_method_1_code 8 none :: ws) ({ frames := 1, cells := 2, slots := 28, locals := 13 } : Room)) (fun a U => a = #[(.ref o1), .null, (.ref o2), .null, (.ref act), (.long ord), (.ref w_EMPTY_SET)] ∧ Z.Warmed39 U.vm ∧ U.heap = h0) (fun _ _ _ _ _ => True) (fun _ U o U' => ∃ v L, o = .returned v ∧ Q8_o1_null_o2_null_act_ord_w_EMPTY_SET Z o1 o2 act ord w_EMPTY_SET h0 n0 v U'.heap L ∧ ReturnedEndW U o U' L ({ frames := 1, cells := 2, slots := 28, locals := 13 } : Room).cells ({ frames := 1, cells := 2, slots := 28, locals := 13 } : Room).slots) := by
  refine MetFree.of_bodySF (plainFor_of_name pn_8) hisR ?_
  intro p e s m args below meth c s₁ Bd hml0 hP hK
  obtain ⟨rfl, hZ, hh⟩ := hP
  have hx := Bd.exec
  have hby := Bd.bytes
  have hml : c.maxLocals = 8 := hml0
  have hown : s.vm.findClass "com/example/stanza_filter/stanzafilter/engine/PrivacyItem" = some m.cls := findClass_of_methodNamed Bd.named
  have hnm := (name_of_methodNamed Bd.named Bd.method).1
  have X0 : Stand p l e ({ frames := 1, cells := 2, slots := 28, locals := 13 } : Room) s m #[(.ref o1), .null, (.ref o2), .null, (.ref act), (.long ord), (.ref w_EMPTY_SET)] below meth c s₁ [] 0 0 := Stand.of_body Bd
  have e0 : s₁.heap = h0 := by rw [← hh, Bd.state]; rfl
  have N0 := Fr.nil n0
  have pre0 : ∀ t, Steps p.tables e below (s₁.setTop (mkF m 0 #[.val (.ref o1), .val .null, .val (.ref o2), .val .null, .val (.ref act), .val (.long ord), .second, .val (.ref w_EMPTY_SET)] [])) t → Steps p.tables e below (s₁.setTop (entryFrame m #[(.ref o1), .null, (.ref o2), .null, (.ref act), (.long ord), (.ref w_EMPTY_SET)] 8)) t := fun t k => castTop (by first | (simp [entryFrame, mkF, argsToLocals, Value.category]; done) | rfl) k
  obtain ⟨T1, X1, e1, st1⟩ := initO X0 hx hZ hown (hw _ (List.mem_of_getElem? (i := 54) rfl)) (hw _ (List.mem_of_getElem? (i := 23) rfl)) (hw _ (List.mem_of_getElem? (i := 24) rfl)) e0 (g := (mkF m 1 #[.val (.ref o1), .val .null, .val (.ref o2), .val .null, .val (.ref act), .val (.long ord), .second, .val (.ref w_EMPTY_SET)] [(.ref o1)])) rfl (by rw [hml]; rfl) rfl (hb hby d8_1) (by decide) (W := 0) (by show 2 * 0 + _ ≤ _; exact Nat.le_of_eq rfl) (by decide)
  have hZ2 : Z.Warmed39 T1.vm := wtrans hZ X1.warmed
  have hown2 : T1.vm.findClass "com/example/stanza_filter/stanzafilter/engine/PrivacyItem" = some m.cls := by rw [X1.warmed.alike.findClass]; exact hown
  have hS2 : s.Since T1.vm T1.heap.size := X1.warmed.since _
  have hk2 : T1.heap.size ≤ h0.size := own_geT e1
  have XR2 : Stand p l e _ (s.setVm T1.vm) m _ below meth c T1 _ _ _ := X1.retabled X1.warmed.wide
  obtain ⟨u3, T3, h3, j3, X3, e3, E3, hS3, hk3, hZ3, hown3, st3⟩ := ldcS XR2 hx hZ2 hown2 (hw _ (List.mem_of_getElem? (i := 55) rfl)) (own_wS hw) e1 hS2 hk2 (g := (mkF m 6 #[.val (.ref o1), .val .null, .val (.ref o2), .val .null, .val (.ref act), .val (.long ord), .second, .val (.ref w_EMPTY_SET)] [(.ref act)])) rfl (hb hby d8_6) (n := 24) (by decide) (by decide) (by decide) (by decide)
  have K3 : Keep h0 h3 [o1] := (Keep.refl h0 [o1]).ext E3
  obtain ⟨_, _, ⟨T4, L4, k4, n4⟩, -, X4, ⟨Lc4, hQ4, l4, y4, z4⟩, st4⟩ := Jvm.LawKit.callS X3 hx (y := (⟨"java/util/Objects", "requireNonNull", "(Ljava/lang/Object;Ljava/lang/String;)Ljava/lang/Object;"⟩ : MethodName)) hown3 (mvT hZ3 (hw _ (List.mem_of_getElem? (i := 40) rfl))) (mvT hZ3 (hw _ (List.mem_of_getElem? (i := 41) rfl))) (mvT hZ3 (hw _ (List.mem_of_getElem? (i := 42) rfl))) (mvT hZ3 (hw _ (List.mem_of_getElem? (i := 43) rfl))) (by decide) (backOf (W := 0) (rm6_act_o1 l Z a0 hw [] act u3 h3 n0 (Nat.le_trans Z0 K3.1)) hZ3 (hw _ (List.mem_of_getElem? (i := 43) rfl)) (hw _ (List.mem_of_getElem? (i := 42) rfl)) (by decide) (by decide)) (g := (mkF m 8 #[.val (.ref o1), .val .null, .val (.ref o2), .val .null, .val (.ref act), .val (.long ord), .second, .val (.ref w_EMPTY_SET)] [(.ref u3), (.ref act)])) rfl (by rw [hml]; rfl) (argsL := [(.ref act), (.ref u3)]) (rest := []) (lenOf pd__Ljava_lang_Object_Ljava_lang_String__Ljava_lang_Object_ rfl) rfl (by show 2 * 0 + _ ≤ _; exact Nat.le_of_eq rfl) (hb hby d8_8) (fun _ _ => ⟨rfl, e3, (by decide : 2 + 0 ≤ _), (by decide : 28 + 0 ≤ _)⟩)
  dsimp only [Pt.U, Pt.locs, Pt.cells, Pt.slots] at X4 l4 y4 z4 st4 hQ4
  subst l4 y4 z4
  obtain ⟨rfl, N4q, e4⟩ := hQ4
  have N4 := Fr.app N0 N4q
  obtain ⟨T5, h5, X5, e5, W5, st5⟩ := putF X4 hx hZ3 hown3 (host := "") (Or.inl (hw _ (List.mem_of_getElem? (i := 57) rfl))) Via.refl e4 (F_jid_o1.ext E3) (E_o1.ext E3) (Or.inr ⟨(hw _ (List.mem_of_getElem? (i := 58) rfl)), rfl, hnm⟩) (hw _ (List.mem_of_getElem? (i := 38) rfl)) (ty := (.object "com/example/stanza_filter/stanzafilter/engine/Jid")) (by decide) rfl rfl (g := (mkF m 45 #[.val (.ref o1), .val .null, .val (.ref o2), .val .null, .val (.ref act), .val (.long ord), .second, .val (.ref w_EMPTY_SET)] [.null, (.ref o1)])) rfl rfl (hb hby d8_45)
  have Fw5 := (F_jid_o1.ext E3).same W5
  have N5 := Fr.snoc X5 N4 g_o1
  have hkW5 := Nat.le_trans hk3 (Nat.le_of_eq W5.size.symm)
  have K5 : Keep h0 h5 [o1] := K3.wr W5 (Or.inl (List.mem_of_getElem? (i := 0) rfl))
  obtain ⟨T6, h6, X6, e6, W6, st6⟩ := putF X5 hx hZ3 hown3 (host := "") (Or.inl (hw _ (List.mem_of_getElem? (i := 59) rfl))) Via.refl e5 ((F_group_o1.ext E3).other W5 (Or.inr (slot_ne (Or.inr (hw _ (List.mem_of_getElem? (i := 60) rfl))) (Or.inr (hw _ (List.mem_of_getElem? (i := 58) rfl))) (by decide) (t := (.object "java/lang/String")) (t' := (.object "com/example/stanza_filter/stanzafilter/engine/Jid")) (by decide) (by decide)))) ((E_o1.ext E3).wr W5) (Or.inr ⟨(hw _ (List.mem_of_getElem? (i := 60) rfl)), rfl, hnm⟩) (hw _ (List.mem_of_getElem? (i := 38) rfl)) (ty := (.object "java/lang/String")) (by decide) rfl rfl (g := (mkF m 50 #[.val (.ref o1), .val .null, .val (.ref o2), .val .null, .val (.ref act), .val (.long ord), .second, .val (.ref w_EMPTY_SET)] [(.ref o2), (.ref o1)])) rfl rfl (hb hby d8_50)
  have Fw6 := ((F_group_o1.ext E3).other W5 (Or.inr (slot_ne (Or.inr (hw _ (List.mem_of_getElem? (i := 60) rfl))) (Or.inr (hw _ (List.mem_of_getElem? (i := 58) rfl))) (by decide) (t := (.object "java/lang/String")) (t' := (.object "com/example/stanza_filter/stanzafilter/engine/Jid")) (by decide) (by decide)))).same W6
  have N6 := Fr.snoc X6 N5 g_o1
  have hkW6 := Nat.le_trans hkW5 (Nat.le_of_eq W6.size.symm)
  have K6 : Keep h0 h6 [o1] := K5.wr W6 (Or.inl (List.mem_of_getElem? (i := 0) rfl))
  obtain ⟨T7, h7, X7, e7, W7, st7⟩ := putF X6 hx hZ3 hown3 (host := "") (Or.inl (hw _ (List.mem_of_getElem? (i := 61) rfl))) Via.refl e6 (((F_subscription_o1.ext E3).other W5 (Or.inr (slot_ne (Or.inr (hw _ (List.mem_of_getElem? (i := 62) rfl))) (Or.inr (hw _ (List.mem_of_getElem? (i := 58) rfl))) (by decide) (t := (.object "com/example/stanza_filter/stanzafilter/engine/Subscription")) (t' := (.object "com/example/stanza_filter/stanzafilter/engine/Jid")) (by decide) (by decide)))).other W6 (Or.inr (slot_ne (Or.inr (hw _ (List.mem_of_getElem? (i := 62) rfl))) (Or.inr (hw _ (List.mem_of_getElem? (i := 60) rfl))) (by decide) (t := (.object "com/example/stanza_filter/stanzafilter/engine/Subscription")) (t' := (.object "java/lang/String")) (by decide) (by decide)))) (((E_o1.ext E3).wr W5).wr W6) (Or.inr ⟨(hw _ (List.mem_of_getElem? (i := 62) rfl)), rfl, hnm⟩) (hw _ (List.mem_of_getElem? (i := 38) rfl)) (ty := (.object "com/example/stanza_filter/stanzafilter/engine/Subscription")) (by decide) rfl rfl (g := (mkF m 55 #[.val (.ref o1), .val .null, .val (.ref o2), .val .null, .val (.ref act), .val (.long ord), .second, .val (.ref w_EMPTY_SET)] [.null, (.ref o1)])) rfl rfl (hb hby d8_55)
  have Fw7 := (((F_subscription_o1.ext E3).other W5 (Or.inr (slot_ne (Or.inr (hw _ (List.mem_of_getElem? (i := 62) rfl))) (Or.inr (hw _ (List.mem_of_getElem? (i := 58) rfl))) (by decide) (t := (.object "com/example/stanza_filter/stanzafilter/engine/Subscription")) (t' := (.object "com/example/stanza_filter/stanzafilter/engine/Jid")) (by decide) (by decide)))).other W6 (Or.inr (slot_ne (Or.inr (hw _ (List.mem_of_getElem? (i := 62) rfl))) (Or.inr (hw _ (List.mem_of_getElem? (i := 60) rfl))) (by decide) (t := (.object "com/example/stanza_filter/stanzafilter/engine/Subscription")) (t' := (.object "java/lang/String")) (by decide) (by decide)))).same W7
  have N7 := Fr.snoc X7 N6 g_o1
  have hkW7 := Nat.le_trans hkW6 (Nat.le_of_eq W7.size.symm)
  have K7 : Keep h0 h7 [o1] := K6.wr W7 (Or.inl (List.mem_of_getElem? (i := 0) rfl))
  obtain ⟨T8, h8, X8, e8, W8, st8⟩ := putF X7 hx hZ3 hown3 (host := "") (Or.inl (hw _ (List.mem_of_getElem? (i := 63) rfl))) Via.refl e7 ((((F_action_o1.ext E3).other W5 (Or.inr (slot_ne (Or.inr (hw _ (List.mem_of_getElem? (i := 64) rfl))) (Or.inr (hw _ (List.mem_of_getElem? (i := 58) rfl))) (by decide) (t := (.object "com/example/stanza_filter/stanzafilter/engine/Action")) (t' := (.object "com/example/stanza_filter/stanzafilter/engine/Jid")) (by decide) (by decide)))).other W6 (Or.inr (slot_ne (Or.inr (hw _ (List.mem_of_getElem? (i := 64) rfl))) (Or.inr (hw _ (List.mem_of_getElem? (i := 60) rfl))) (by decide) (t := (.object "com/example/stanza_filter/stanzafilter/engine/Action")) (t' := (.object "java/lang/String")) (by decide) (by decide)))).other W7 (Or.inr (slot_ne (Or.inr (hw _ (List.mem_of_getElem? (i := 64) rfl))) (Or.inr (hw _ (List.mem_of_getElem? (i := 62) rfl))) (by decide) (t := (.object "com/example/stanza_filter/stanzafilter/engine/Action")) (t' := (.object "com/example/stanza_filter/stanzafilter/engine/Subscription")) (by decide) (by decide)))) ((((E_o1.ext E3).wr W5).wr W6).wr W7) (Or.inr ⟨(hw _ (List.mem_of_getElem? (i := 64) rfl)), rfl, hnm⟩) (hw _ (List.mem_of_getElem? (i := 38) rfl)) (ty := (.object "com/example/stanza_filter/stanzafilter/engine/Action")) (by decide) rfl rfl (g := (mkF m 61 #[.val (.ref o1), .val .null, .val (.ref o2), .val .null, .val (.ref act), .val (.long ord), .second, .val (.ref w_EMPTY_SET)] [(.ref act), (.ref o1)])) rfl rfl (hb hby d8_61)
  have Fw8 := ((((F_action_o1.ext E3).other W5 (Or.inr (slot_ne (Or.inr (hw _ (List.mem_of_getElem? (i := 64) rfl))) (Or.inr (hw _ (List.mem_of_getElem? (i := 58) rfl))) (by decide) (t := (.object "com/example/stanza_filter/stanzafilter/engine/Action")) (t' := (.object "com/example/stanza_filter/stanzafilter/engine/Jid")) (by decide) (by decide)))).other W6 (Or.inr (slot_ne (Or.inr (hw _ (List.mem_of_getElem? (i := 64) rfl))) (Or.inr (hw _ (List.mem_of_getElem? (i := 60) rfl))) (by decide) (t := (.object "com/example/stanza_filter/stanzafilter/engine/Action")) (t' := (.object "java/lang/String")) (by decide) (by decide)))).other W7 (Or.inr (slot_ne (Or.inr (hw _ (List.mem_of_getElem? (i := 64) rfl))) (Or.inr (hw _ (List.mem_of_getElem? (i := 62) rfl))) (by decide) (t := (.object "com/example/stanza_filter/stanzafilter/engine/Action")) (t' := (.object "com/example/stanza_filter/stanzafilter/engine/Subscription")) (by decide) (by decide)))).same W8
  have N8 := Fr.snoc X8 N7 g_o1
  have hkW8 := Nat.le_trans hkW7 (Nat.le_of_eq W8.size.symm)
  have K8 : Keep h0 h8 [o1] := K7.wr W8 (Or.inl (List.mem_of_getElem? (i := 0) rfl))
  obtain ⟨T9, h9, X9, e9, W9, st9⟩ := putF X8 hx hZ3 hown3 (host := "") (Or.inl (hw _ (List.mem_of_getElem? (i := 65) rfl))) Via.refl e8 (((((F_order_o1.ext E3).other W5 (Or.inr (slot_ne (Or.inr (hw _ (List.mem_of_getElem? (i := 66) rfl))) (Or.inr (hw _ (List.mem_of_getElem? (i := 58) rfl))) (by decide) (t := .long) (t' := (.object "com/example/stanza_filter/stanzafilter/engine/Jid")) (by decide) (by decide)))).other W6 (Or.inr (slot_ne (Or.inr (hw _ (List.mem_of_getElem? (i := 66) rfl))) (Or.inr (hw _ (List.mem_of_getElem? (i := 60) rfl))) (by decide) (t := .long) (t' := (.object "java/lang/String")) (by decide) (by decide)))).other W7 (Or.inr (slot_ne (Or.inr (hw _ (List.mem_of_getElem? (i := 66) rfl))) (Or.inr (hw _ (List.mem_of_getElem? (i := 62) rfl))) (by decide) (t := .long) (t' := (.object "com/example/stanza_filter/stanzafilter/engine/Subscription")) (by decide) (by decide)))).other W8 (Or.inr (slot_ne (Or.inr (hw _ (List.mem_of_getElem? (i := 66) rfl))) (Or.inr (hw _ (List.mem_of_getElem? (i := 64) rfl))) (by decide) (t := .long) (t' := (.object "com/example/stanza_filter/stanzafilter/engine/Action")) (by decide) (by decide)))) (((((E_o1.ext E3).wr W5).wr W6).wr W7).wr W8) (Or.inr ⟨(hw _ (List.mem_of_getElem? (i := 66) rfl)), rfl, hnm⟩) (hw _ (List.mem_of_getElem? (i := 38) rfl)) (ty := .long) (by decide) rfl rfl (g := (mkF m 67 #[.val (.ref o1), .val .null, .val (.ref o2), .val .null, .val (.ref act), .val (.long ord), .second, .val (.ref w_EMPTY_SET)] [(.long ord), (.ref o1)])) rfl rfl (hb hby d8_67)
  have Fw9 := (((((F_order_o1.ext E3).other W5 (Or.inr (slot_ne (Or.inr (hw _ (List.mem_of_getElem? (i := 66) rfl))) (Or.inr (hw _ (List.mem_of_getElem? (i := 58) rfl))) (by decide) (t := .long) (t' := (.object "com/example/stanza_filter/stanzafilter/engine/Jid")) (by decide) (by decide)))).other W6 (Or.inr (slot_ne (Or.inr (hw _ (List.mem_of_getElem? (i := 66) rfl))) (Or.inr (hw _ (List.mem_of_getElem? (i := 60) rfl))) (by decide) (t := .long) (t' := (.object "java/lang/String")) (by decide) (by decide)))).other W7 (Or.inr (slot_ne (Or.inr (hw _ (List.mem_of_getElem? (i := 66) rfl))) (Or.inr (hw _ (List.mem_of_getElem? (i := 62) rfl))) (by decide) (t := .long) (t' := (.object "com/example/stanza_filter/stanzafilter/engine/Subscription")) (by decide) (by decide)))).other W8 (Or.inr (slot_ne (Or.inr (hw _ (List.mem_of_getElem? (i := 66) rfl))) (Or.inr (hw _ (List.mem_of_getElem? (i := 64) rfl))) (by decide) (t := .long) (t' := (.object "com/example/stanza_filter/stanzafilter/engine/Action")) (by decide) (by decide)))).same W9
  have N9 := Fr.snoc X9 N8 g_o1
  have hkW9 := Nat.le_trans hkW8 (Nat.le_of_eq W9.size.symm)
  have K9 : Keep h0 h9 [o1] := K8.wr W9 (Or.inl (List.mem_of_getElem? (i := 0) rfl))
  obtain ⟨T10, h10, X10, e10, W10, st10⟩ := putF X9 hx hZ3 hown3 (host := "") (Or.inl (hw _ (List.mem_of_getElem? (i := 67) rfl))) Via.refl e9 ((((((F_scopes_o1.ext E3).other W5 (Or.inr (slot_ne (Or.inr (hw _ (List.mem_of_getElem? (i := 68) rfl))) (Or.inr (hw _ (List.mem_of_getElem? (i := 58) rfl))) (by decide) (t := (.object "java/util/Set")) (t' := (.object "com/example/stanza_filter/stanzafilter/engine/Jid")) (by decide) (by decide)))).other W6 (Or.inr (slot_ne (Or.inr (hw _ (List.mem_of_getElem? (i := 68) rfl))) (Or.inr (hw _ (List.mem_of_getElem? (i := 60) rfl))) (by decide) (t := (.object "java/util/Set")) (t' := (.object "java/lang/String")) (by decide) (by decide)))).other W7 (Or.inr (slot_ne (Or.inr (hw _ (List.mem_of_getElem? (i := 68) rfl))) (Or.inr (hw _ (List.mem_of_getElem? (i := 62) rfl))) (by decide) (t := (.object "java/util/Set")) (t' := (.object "com/example/stanza_filter/stanzafilter/engine/Subscription")) (by decide) (by decide)))).other W8 (Or.inr (slot_ne (Or.inr (hw _ (List.mem_of_getElem? (i := 68) rfl))) (Or.inr (hw _ (List.mem_of_getElem? (i := 64) rfl))) (by decide) (t := (.object "java/util/Set")) (t' := (.object "com/example/stanza_filter/stanzafilter/engine/Action")) (by decide) (by decide)))).other W9 (Or.inr (slot_ne (Or.inr (hw _ (List.mem_of_getElem? (i := 68) rfl))) (Or.inr (hw _ (List.mem_of_getElem? (i := 66) rfl))) (by decide) (t := (.object "java/util/Set")) (t' := .long) (by decide) (by decide)))) ((((((E_o1.ext E3).wr W5).wr W6).wr W7).wr W8).wr W9) (Or.inr ⟨(hw _ (List.mem_of_getElem? (i := 68) rfl)), rfl, hnm⟩) (hw _ (List.mem_of_getElem? (i := 38) rfl)) (ty := (.object "java/util/Set")) (by decide) rfl rfl (g := (mkF m 73 #[.val (.ref o1), .val .null, .val (.ref o2), .val .null, .val (.ref act), .val (.long ord), .second, .val (.ref w_EMPTY_SET)] [(.ref w_EMPTY_SET), (.ref o1)])) rfl rfl (hb hby d8_73)
  have Fw10 := ((((((F_scopes_o1.ext E3).other W5 (Or.inr (slot_ne (Or.inr (hw _ (List.mem_of_getElem? (i := 68) rfl))) (Or.inr (hw _ (List.mem_of_getElem? (i := 58) rfl))) (by decide) (t := (.object "java/util/Set")) (t' := (.object "com/example/stanza_filter/stanzafilter/engine/Jid")) (by decide) (by decide)))).other W6 (Or.inr (slot_ne (Or.inr (hw _ (List.mem_of_getElem? (i := 68) rfl))) (Or.inr (hw _ (List.mem_of_getElem? (i := 60) rfl))) (by decide) (t := (.object "java/util/Set")) (t' := (.object "java/lang/String")) (by decide) (by decide)))).other W7 (Or.inr (slot_ne (Or.inr (hw _ (List.mem_of_getElem? (i := 68) rfl))) (Or.inr (hw _ (List.mem_of_getElem? (i := 62) rfl))) (by decide) (t := (.object "java/util/Set")) (t' := (.object "com/example/stanza_filter/stanzafilter/engine/Subscription")) (by decide) (by decide)))).other W8 (Or.inr (slot_ne (Or.inr (hw _ (List.mem_of_getElem? (i := 68) rfl))) (Or.inr (hw _ (List.mem_of_getElem? (i := 64) rfl))) (by decide) (t := (.object "java/util/Set")) (t' := (.object "com/example/stanza_filter/stanzafilter/engine/Action")) (by decide) (by decide)))).other W9 (Or.inr (slot_ne (Or.inr (hw _ (List.mem_of_getElem? (i := 68) rfl))) (Or.inr (hw _ (List.mem_of_getElem? (i := 66) rfl))) (by decide) (t := (.object "java/util/Set")) (t' := .long) (by decide) (by decide)))).same W10
  have N10 := Fr.snoc X10 N9 g_o1
  have hkW10 := Nat.le_trans hkW9 (Nat.le_of_eq W10.size.symm)
  have K10 : Keep h0 h10 [o1] := K9.wr W10 (Or.inl (List.mem_of_getElem? (i := 0) rfl))
  obtain ⟨fs, hr, hrun, hended, hend⟩ := Stand.leaveW (s := s) X10 (v := none) hS3 (own_leT e10 hkW10) (fun _ => rfl)
  refine ⟨_, _, pre0 _ ?_, hrun, hended, _, _, rfl, ?_, hend.1, hend.2.1, hend.2.2.1, hend.2.2.2.mono (by decide) (by decide)⟩
  · show Steps p.tables e below (s₁.setTop (mkF m 0 #[.val (.ref o1), .val .null, .val (.ref o2), .val .null, .val (.ref act), .val (.long ord), .second, .val (.ref w_EMPTY_SET)] [])) _
    refine XS.aloadN X0.here hx rfl (hb hby d8_0) rfl rfl ?_
    show Steps p.tables e below (s₁.setTop (mkF m 1 #[.val (.ref o1), .val .null, .val (.ref o2), .val .null, .val (.ref act), .val (.long ord), .second, .val (.ref w_EMPTY_SET)] [(.ref o1)])) _
    refine st1 _ ?_
    show Steps p.tables e below (T1.setTop (mkF m 4 #[.val (.ref o1), .val .null, .val (.ref o2), .val .null, .val (.ref act), .val (.long ord), .second, .val (.ref w_EMPTY_SET)] [])) _
    refine XS.aload X1.here hx rfl (hb hby d8_4) rfl rfl ?_
    show Steps p.tables e below (T1.setTop (mkF m 6 #[.val (.ref o1), .val .null, .val (.ref o2), .val .null, .val (.ref act), .val (.long ord), .second, .val (.ref w_EMPTY_SET)] [(.ref act)])) _
    refine st3 _ ?_
    show Steps p.tables e below (T3.setTop (mkF m 8 #[.val (.ref o1), .val .null, .val (.ref o2), .val .null, .val (.ref act), .val (.long ord), .second, .val (.ref w_EMPTY_SET)] [(.ref u3), (.ref act)])) _
    refine st4 _ ?_
    show Steps p.tables e below (T4.setTop (mkF m 11 #[.val (.ref o1), .val .null, .val (.ref o2), .val .null, .val (.ref act), .val (.long ord), .second, .val (.ref w_EMPTY_SET)] [(.ref act)])) _
    refine XS.pop X4.here hx rfl (hb hby d8_11) rfl rfl ?_
    show Steps p.tables e below (T4.setTop (mkF m 12 #[.val (.ref o1), .val .null, .val (.ref o2), .val .null, .val (.ref act), .val (.long ord), .second, .val (.ref w_EMPTY_SET)] [])) _
    refine XS.lload X4.here hx rfl (hb hby d8_12) rfl ?_
    show Steps p.tables e below (T4.setTop (mkF m 14 #[.val (.ref o1), .val .null, .val (.ref o2), .val .null, .val (.ref act), .val (.long ord), .second, .val (.ref w_EMPTY_SET)] [(.long ord)])) _
    refine XS.lconst X4.here hx rfl (hb hby d8_14) ?_
    show Steps p.tables e below (T4.setTop (mkF m 15 #[.val (.ref o1), .val .null, .val (.ref o2), .val .null, .val (.ref act), .val (.long ord), .second, .val (.ref w_EMPTY_SET)] [(.long 0), (.long ord)])) _
    refine XS.lcmp X4.here hx rfl (hb hby d8_15) rfl ?_
    show Steps p.tables e below (T4.setTop (mkF m 16 #[.val (.ref o1), .val .null, .val (.ref o2), .val .null, .val (.ref act), .val (.long ord), .second, .val (.ref w_EMPTY_SET)] [(.int (lcmpW ord (0 : Int64)))])) _
    refine XS.ifNo X4.here hx rfl (hb hby d8_16) rfl ((if0 _ _).trans (flt hc16).1) ?_
    show Steps p.tables e below (T4.setTop (mkF m 19 #[.val (.ref o1), .val .null, .val (.ref o2), .val .null, .val (.ref act), .val (.long ord), .second, .val (.ref w_EMPTY_SET)] [])) _
    refine XS.lload X4.here hx rfl (hb hby d8_19) rfl ?_
    show Steps p.tables e below (T4.setTop (mkF m 21 #[.val (.ref o1), .val .null, .val (.ref o2), .val .null, .val (.ref act), .val (.long ord), .second, .val (.ref w_EMPTY_SET)] [(.long ord)])) _
    refine X4.ldc2Long hx hown3 (mvT hZ3 (hw _ (List.mem_of_getElem? (i := 56) rfl))) (g := (mkF m 21 #[.val (.ref o1), .val .null, .val (.ref o2), .val .null, .val (.ref act), .val (.long ord), .second, .val (.ref w_EMPTY_SET)] [(.long ord)])) rfl (hb hby d8_21) _ ?_
    show Steps p.tables e below (T4.setTop (mkF m 24 #[.val (.ref o1), .val .null, .val (.ref o2), .val .null, .val (.ref act), .val (.long ord), .second, .val (.ref w_EMPTY_SET)] [(.long 4294967295), (.long ord)])) _
    refine XS.lcmp X4.here hx rfl (hb hby d8_24) rfl ?_
    show Steps p.tables e below (T4.setTop (mkF m 25 #[.val (.ref o1), .val .null, .val (.ref o2), .val .null, .val (.ref act), .val (.long ord), .second, .val (.ref w_EMPTY_SET)] [(.int (lcmpW ord (4294967295 : Int64)))])) _
    refine XS.ifYes X4.here hx rfl (pc0 := 25) (pc' := 43) rfl (hb hby d8_25) rfl ((if0 _ _).trans (flt hc25).2.2.2) (by decide) (by decide) ?_
    show Steps p.tables e below (T4.setTop (mkF m 43 #[.val (.ref o1), .val .null, .val (.ref o2), .val .null, .val (.ref act), .val (.long ord), .second, .val (.ref w_EMPTY_SET)] [])) _
    refine XS.aloadN X4.here hx rfl (hb hby d8_43) rfl rfl ?_
    show Steps p.tables e below (T4.setTop (mkF m 44 #[.val (.ref o1), .val .null, .val (.ref o2), .val .null, .val (.ref act), .val (.long ord), .second, .val (.ref w_EMPTY_SET)] [(.ref o1)])) _
    refine XS.aloadN X4.here hx rfl (hb hby d8_44) rfl rfl ?_
    show Steps p.tables e below (T4.setTop (mkF m 45 #[.val (.ref o1), .val .null, .val (.ref o2), .val .null, .val (.ref act), .val (.long ord), .second, .val (.ref w_EMPTY_SET)] [.null, (.ref o1)])) _
    refine st5 _ ?_
    show Steps p.tables e below (T5.setTop (mkF m 48 #[.val (.ref o1), .val .null, .val (.ref o2), .val .null, .val (.ref act), .val (.long ord), .second, .val (.ref w_EMPTY_SET)] [])) _
    refine XS.aloadN X5.here hx rfl (hb hby d8_48) rfl rfl ?_
    show Steps p.tables e below (T5.setTop (mkF m 49 #[.val (.ref o1), .val .null, .val (.ref o2), .val .null, .val (.ref act), .val (.long ord), .second, .val (.ref w_EMPTY_SET)] [(.ref o1)])) _
    refine XS.aloadN X5.here hx rfl (hb hby d8_49) rfl rfl ?_
    show Steps p.tables e below (T5.setTop (mkF m 50 #[.val (.ref o1), .val .null, .val (.ref o2), .val .null, .val (.ref act), .val (.long ord), .second, .val (.ref w_EMPTY_SET)] [(.ref o2), (.ref o1)])) _
    refine st6 _ ?_
    show Steps p.tables e below (T6.setTop (mkF m 53 #[.val (.ref o1), .val .null, .val (.ref o2), .val .null, .val (.ref act), .val (.long ord), .second, .val (.ref w_EMPTY_SET)] [])) _
    refine XS.aloadN X6.here hx rfl (hb hby d8_53) rfl rfl ?_
    show Steps p.tables e below (T6.setTop (mkF m 54 #[.val (.ref o1), .val .null, .val (.ref o2), .val .null, .val (.ref act), .val (.long ord), .second, .val (.ref w_EMPTY_SET)] [(.ref o1)])) _
    refine XS.aloadN X6.here hx rfl (hb hby d8_54) rfl rfl ?_
    show Steps p.tables e below (T6.setTop (mkF m 55 #[.val (.ref o1), .val .null, .val (.ref o2), .val .null, .val (.ref act), .val (.long ord), .second, .val (.ref w_EMPTY_SET)] [.null, (.ref o1)])) _
    refine st7 _ ?_
    show Steps p.tables e below (T7.setTop (mkF m 58 #[.val (.ref o1), .val .null, .val (.ref o2), .val .null, .val (.ref act), .val (.long ord), .second, .val (.ref w_EMPTY_SET)] [])) _
    refine XS.aloadN X7.here hx rfl (hb hby d8_58) rfl rfl ?_
    show Steps p.tables e below (T7.setTop (mkF m 59 #[.val (.ref o1), .val .null, .val (.ref o2), .val .null, .val (.ref act), .val (.long ord), .second, .val (.ref w_EMPTY_SET)] [(.ref o1)])) _
    refine XS.aload X7.here hx rfl (hb hby d8_59) rfl rfl ?_
    show Steps p.tables e below (T7.setTop (mkF m 61 #[.val (.ref o1), .val .null, .val (.ref o2), .val .null, .val (.ref act), .val (.long ord), .second, .val (.ref w_EMPTY_SET)] [(.ref act), (.ref o1)])) _
    refine st8 _ ?_
    show Steps p.tables e below (T8.setTop (mkF m 64 #[.val (.ref o1), .val .null, .val (.ref o2), .val .null, .val (.ref act), .val (.long ord), .second, .val (.ref w_EMPTY_SET)] [])) _
    refine XS.aloadN X8.here hx rfl (hb hby d8_64) rfl rfl ?_
    show Steps p.tables e below (T8.setTop (mkF m 65 #[.val (.ref o1), .val .null, .val (.ref o2), .val .null, .val (.ref act), .val (.long ord), .second, .val (.ref w_EMPTY_SET)] [(.ref o1)])) _
    refine XS.lload X8.here hx rfl (hb hby d8_65) rfl ?_
    show Steps p.tables e below (T8.setTop (mkF m 67 #[.val (.ref o1), .val .null, .val (.ref o2), .val .null, .val (.ref act), .val (.long ord), .second, .val (.ref w_EMPTY_SET)] [(.long ord), (.ref o1)])) _
    refine st9 _ ?_
    show Steps p.tables e below (T9.setTop (mkF m 70 #[.val (.ref o1), .val .null, .val (.ref o2), .val .null, .val (.ref act), .val (.long ord), .second, .val (.ref w_EMPTY_SET)] [])) _
    refine XS.aloadN X9.here hx rfl (hb hby d8_70) rfl rfl ?_
    show Steps p.tables e below (T9.setTop (mkF m 71 #[.val (.ref o1), .val .null, .val (.ref o2), .val .null, .val (.ref act), .val (.long ord), .second, .val (.ref w_EMPTY_SET)] [(.ref o1)])) _
    refine XS.aload X9.here hx rfl (hb hby d8_71) rfl rfl ?_
    show Steps p.tables e below (T9.setTop (mkF m 73 #[.val (.ref o1), .val .null, .val (.ref o2), .val .null, .val (.ref act), .val (.long ord), .second, .val (.ref w_EMPTY_SET)] [(.ref w_EMPTY_SET), (.ref o1)])) _
    refine st10 _ ?_
    show Steps p.tables e below (T10.setTop (mkF m 76 #[.val (.ref o1), .val .null, .val (.ref o2), .val .null, .val (.ref act), .val (.long ord), .second, .val (.ref w_EMPTY_SET)] [])) _
    exact X10.returnOut hx Bd.returns (hb hby d8_76) hr
  · show Q8_o1_null_o2_null_act_ord_w_EMPTY_SET Z o1 o2 act ord w_EMPTY_SET h0 n0 _ T10.heap _
    rw [e10]
    exact ⟨rfl, N10, K10, (((((((E_o1.ext E3).wr W5).wr W6).wr W7).wr W8).wr W9).wr W10), (((((Fw5.other W6 (Or.inr (slot_ne (Or.inr (hw _ (List.mem_of_getElem? (i := 58) rfl))) (Or.inr (hw _ (List.mem_of_getElem? (i := 60) rfl))) (by decide) (t := (.object "com/example/stanza_filter/stanzafilter/engine/Jid")) (t' := (.object "java/lang/String")) (by decide) (by decide)))).other W7 (Or.inr (slot_ne (Or.inr (hw _ (List.mem_of_getElem? (i := 58) rfl))) (Or.inr (hw _ (List.mem_of_getElem? (i := 62) rfl))) (by decide) (t := (.object "com/example/stanza_filter/stanzafilter/engine/Jid")) (t' := (.object "com/example/stanza_filter/stanzafilter/engine/Subscription")) (by decide) (by decide)))).other W8 (Or.inr (slot_ne (Or.inr (hw _ (List.mem_of_getElem? (i := 58) rfl))) (Or.inr (hw _ (List.mem_of_getElem? (i := 64) rfl))) (by decide) (t := (.object "com/example/stanza_filter/stanzafilter/engine/Jid")) (t' := (.object "com/example/stanza_filter/stanzafilter/engine/Action")) (by decide) (by decide)))).other W9 (Or.inr (slot_ne (Or.inr (hw _ (List.mem_of_getElem? (i := 58) rfl))) (Or.inr (hw _ (List.mem_of_getElem? (i := 66) rfl))) (by decide) (t := (.object "com/example/stanza_filter/stanzafilter/engine/Jid")) (t' := .long) (by decide) (by decide)))).other W10 (Or.inr (slot_ne (Or.inr (hw _ (List.mem_of_getElem? (i := 58) rfl))) (Or.inr (hw _ (List.mem_of_getElem? (i := 68) rfl))) (by decide) (t := (.object "com/example/stanza_filter/stanzafilter/engine/Jid")) (t' := (.object "java/util/Set")) (by decide) (by decide)))), ((((Fw6.other W7 (Or.inr (slot_ne (Or.inr (hw _ (List.mem_of_getElem? (i := 60) rfl))) (Or.inr (hw _ (List.mem_of_getElem? (i := 62) rfl))) (by decide) (t := (.object "java/lang/String")) (t' := (.object "com/example/stanza_filter/stanzafilter/engine/Subscription")) (by decide) (by decide)))).other W8 (Or.inr (slot_ne (Or.inr (hw _ (List.mem_of_getElem? (i := 60) rfl))) (Or.inr (hw _ (List.mem_of_getElem? (i := 64) rfl))) (by decide) (t := (.object "java/lang/String")) (t' := (.object "com/example/stanza_filter/stanzafilter/engine/Action")) (by decide) (by decide)))).other W9 (Or.inr (slot_ne (Or.inr (hw _ (List.mem_of_getElem? (i := 60) rfl))) (Or.inr (hw _ (List.mem_of_getElem? (i := 66) rfl))) (by decide) (t := (.object "java/lang/String")) (t' := .long) (by decide) (by decide)))).other W10 (Or.inr (slot_ne (Or.inr (hw _ (List.mem_of_getElem? (i := 60) rfl))) (Or.inr (hw _ (List.mem_of_getElem? (i := 68) rfl))) (by decide) (t := (.object "java/lang/String")) (t' := (.object "java/util/Set")) (by decide) (by decide)))), (((Fw7.other W8 (Or.inr (slot_ne (Or.inr (hw _ (List.mem_of_getElem? (i := 62) rfl))) (Or.inr (hw _ (List.mem_of_getElem? (i := 64) rfl))) (by decide) (t := (.object "com/example/stanza_filter/stanzafilter/engine/Subscription")) (t' := (.object "com/example/stanza_filter/stanzafilter/engine/Action")) (by decide) (by decide)))).other W9 (Or.inr (slot_ne (Or.inr (hw _ (List.mem_of_getElem? (i := 62) rfl))) (Or.inr (hw _ (List.mem_of_getElem? (i := 66) rfl))) (by decide) (t := (.object "com/example/stanza_filter/stanzafilter/engine/Subscription")) (t' := .long) (by decide) (by decide)))).other W10 (Or.inr (slot_ne (Or.inr (hw _ (List.mem_of_getElem? (i := 62) rfl))) (Or.inr (hw _ (List.mem_of_getElem? (i := 68) rfl))) (by decide) (t := (.object "com/example/stanza_filter/stanzafilter/engine/Subscription")) (t' := (.object "java/util/Set")) (by decide) (by decide)))), ((Fw8.other W9 (Or.inr (slot_ne (Or.inr (hw _ (List.mem_of_getElem? (i := 64) rfl))) (Or.inr (hw _ (List.mem_of_getElem? (i := 66) rfl))) (by decide) (t := (.object "com/example/stanza_filter/stanzafilter/engine/Action")) (t' := .long) (by decide) (by decide)))).other W10 (Or.inr (slot_ne (Or.inr (hw _ (List.mem_of_getElem? (i := 64) rfl))) (Or.inr (hw _ (List.mem_of_getElem? (i := 68) rfl))) (by decide) (t := (.object "com/example/stanza_filter/stanzafilter/engine/Action")) (t' := (.object "java/util/Set")) (by decide) (by decide)))), (Fw9.other W10 (Or.inr (slot_ne (Or.inr (hw _ (List.mem_of_getElem? (i := 66) rfl))) (Or.inr (hw _ (List.mem_of_getElem? (i := 68) rfl))) (by decide) (t := .long) (t' := (.object "java/util/Set")) (by decide) (by decide)))), Fw10⟩
def Q5_o1_act_ord (Z : State) (o1 : Addr) (act : Addr) (ord : Int64) (w_EMPTY_SET : Addr) (h0 : Heap) (n0 : Nat) (v : Option Value) (h : Heap) (L : List Loc) : Prop := ∃ (c1 : Addr), v = some (.ref c1) ∧ Fr n0 L ∧ Keep h0 h [] ∧ h0.size ≤ c1 ∧ Exa Z h c1 "com/example/stanza_filter/stanzafilter/engine/PrivacyItem" ∧ Fld Z h c1 "com/example/stanza_filter/stanzafilter/engine/PrivacyItem" "jid" "Lcom/example/stanza_filter/stanzafilter/engine/Jid;" .null ∧ Fld Z h c1 "com/example/stanza_filter/stanzafilter/engine/PrivacyItem" "group" "Ljava/lang/String;" (.ref o1) ∧ Fld Z h c1 "com/example/stanza_filter/stanzafilter/engine/PrivacyItem" "subscription" "Lcom/example/stanza_filter/stanzafilter/engine/Subscription;" .null ∧ Fld Z h c1 "com/example/stanza_filter/stanzafilter/engine/PrivacyItem" "action" "Lcom/example/stanza_filter/stanzafilter/engine/Action;" (.ref act) ∧ Fld Z h c1 "com/example/stanza_filter/stanzafilter/engine/PrivacyItem" "order" "J" (.long ord) ∧ Fld Z h c1 "com/example/stanza_filter/stanzafilter/engine/PrivacyItem" "scopes" "Ljava/util/Set;" (.ref w_EMPTY_SET)
set_option maxRecDepth 65536 in
set_option maxHeartbeats 40000000 in
theorem rm5_o1_act_ord (l : Launch) (Z : State) (a0 : Array Value) (hw : ∀ d ∈ tables_1, d.before a0 Z = true) (ws : List Jvm.Cond) (o1 : Addr) (act : Addr) (ord : Int64) (w_EMPTY_SET : Addr) (h0 : Heap) (n0 : Nat) (Z0 : n0 ≤ h0.size) (E_o1 : Exa Z h0 o1 "java/lang/String") (S_EMPTY_SET : Sta Z h0 "java/util/ImmutableCollections" "EMPTY_SET" "Ljava/util/ImmutableCollections$SetN;" (.ref w_EMPTY_SET)) (hc16 : ¬ ((lcmpW ord (0 : Int64)) < (0 : Int32))) (hc25 : ¬ ((0 : Int32) < (lcmpW ord (4294967295 : Int64)))) :
    MetFree l (⟨"com/example/stanza_filter/stanzafilter/engine/PrivacyItem", "group", "(Ljava/lang/String;Lcom/example/stanza_filter/stanzafilter/engine/Action;J)Lcom/example/stanza_filter/stanzafilter/engine/PrivacyItem;"⟩ : MethodName) (head1 (Jvm.Cond.code (⟨"com/example/stanza_filter/stanzafilter/engine/PrivacyItem", "group", "(Ljava/lang/String;Lcom/example/stanza_filter/stanzafilter/engine/Action;J)Lcom/example/stanza_filter/stanzafilter/engine/PrivacyItem;"⟩ : MethodName) prog_9_method_3_code 4 (some (.object "com/example/stanza_filter/stanzafilter/engine/PrivacyItem")) :: ws) ({ frames := 2, cells := 5, slots := 58, locals := 33 } : Room)) (fun a U => a = #[(.ref o1), (.ref act), (.long ord)] ∧ Z.Warmed39 U.vm ∧ U.heap = h0) (fun _ _ _ _ _ => True) (fun _ U o U' => ∃ v L, o = .returned v ∧ Q5_o1_act_ord Z o1 act ord w_EMPTY_SET h0 n0 v U'.heap L ∧ ReturnedEndW U o U' L ({ frames := 2, cells := 5, slots := 58, locals := 33 } : Room).cells ({ frames := 2, cells := 5, slots := 58, locals := 33 } : Room).slots) := by
  refine MetFree.of_bodySF (plainFor_of_name pn_5) hisR ?_
  intro p e s m args below meth c s₁ Bd hml0 hP hK
  obtain ⟨rfl, hZ, hh⟩ := hP
  have hx := Bd.exec
  have hby := Bd.bytes
  have hml : c.maxLocals = 4 := hml0
  have hown : s.vm.findClass "com/example/stanza_filter/stanzafilter/engine/PrivacyItem" = some m.cls := findClass_of_methodNamed Bd.named
  have hnm := (name_of_methodNamed Bd.named Bd.method).1
  have X0 : Stand p l e ({ frames := 2, cells := 5, slots := 58, locals := 33 } : Room) s m #[(.ref o1), (.ref act), (.long ord)] below meth c s₁ [] 0 0 := Stand.of_body Bd
  have e0 : s₁.heap = h0 := by rw [← hh, Bd.state]; rfl
  have N0 := Fr.nil n0
  have pre0 : ∀ t, Steps p.tables e below (s₁.setTop (mkF m 0 #[.val (.ref o1), .val (.ref act), .val (.long ord), .second] [])) t → Steps p.tables e below (s₁.setTop (entryFrame m #[(.ref o1), (.ref act), (.long ord)] 4)) t := fun t k => castTop (by first | (simp [entryFrame, mkF, argsToLocals, Value.category]; done) | rfl) k
  obtain ⟨T1, h1, X1, e1, E1, A1, D1, -, st1⟩ := newO X0 hx hZ hown (hw _ (List.mem_of_getElem? (i := 37) rfl)) (hw _ (List.mem_of_getElem? (i := 38) rfl)) (hw _ (List.mem_of_getElem? (i := 35) rfl)) e0 (g := (mkF m 0 #[.val (.ref o1), .val (.ref act), .val (.long ord), .second] [])) rfl (hb hby d5_0) (by decide) (by decide)
  obtain ⟨b1, g1⟩ : ∃ z, z = h0.size := ⟨_, rfl⟩
  have s_b1 : h0.size ≤ b1 := Nat.le_of_eq g1.symm
  have g_b1 : n0 ≤ b1 := Nat.le_trans Z0 s_b1
  have sz_b1 : h0.size ≤ b1 := s_b1
  rw [← g1] at A1 D1 st1
  have K1 : Keep h0 h1 [] := (Keep.refl h0 []).ext E1
  have F_jid_b1 : Fld Z h1 b1 "com/example/stanza_filter/stanzafilter/engine/PrivacyItem" "jid" "Lcom/example/stanza_filter/stanzafilter/engine/Jid;" .null := D1 (Or.inr (hw _ (List.mem_of_getElem? (i := 58) rfl))) (ty := (.object "com/example/stanza_filter/stanzafilter/engine/Jid")) (by decide)
  have F_group_b1 : Fld Z h1 b1 "com/example/stanza_filter/stanzafilter/engine/PrivacyItem" "group" "Ljava/lang/String;" .null := D1 (Or.inr (hw _ (List.mem_of_getElem? (i := 60) rfl))) (ty := (.object "java/lang/String")) (by decide)
  have F_subscription_b1 : Fld Z h1 b1 "com/example/stanza_filter/stanzafilter/engine/PrivacyItem" "subscription" "Lcom/example/stanza_filter/stanzafilter/engine/Subscription;" .null := D1 (Or.inr (hw _ (List.mem_of_getElem? (i := 62) rfl))) (ty := (.object "com/example/stanza_filter/stanzafilter/engine/Subscription")) (by decide)
  have F_action_b1 : Fld Z h1 b1 "com/example/stanza_filter/stanzafilter/engine/PrivacyItem" "action" "Lcom/example/stanza_filter/stanzafilter/engine/Action;" .null := D1 (Or.inr (hw _ (List.mem_of_getElem? (i := 64) rfl))) (ty := (.object "com/example/stanza_filter/stanzafilter/engine/Action")) (by decide)
  have F_order_b1 : Fld Z h1 b1 "com/example/stanza_filter/stanzafilter/engine/PrivacyItem" "order" "J" (.long 0) := D1 (Or.inr (hw _ (List.mem_of_getElem? (i := 66) rfl))) (ty := .long) (by decide)
  have F_scopes_b1 : Fld Z h1 b1 "com/example/stanza_filter/stanzafilter/engine/PrivacyItem" "scopes" "Ljava/util/Set;" .null := D1 (Or.inr (hw _ (List.mem_of_getElem? (i := 68) rfl))) (ty := (.object "java/util/Set")) (by decide)
  have hZ2 : Z.Warmed39 T1.vm := wtrans hZ X1.warmed
  have hown2 : T1.vm.findClass "com/example/stanza_filter/stanzafilter/engine/PrivacyItem" = some m.cls := by rw [X1.warmed.alike.findClass]; exact hown
  have hS2 : s.Since T1.vm T1.heap.size := X1.warmed.since _
  have hk2 : T1.heap.size ≤ h1.size := own_geT e1
  have XR2 : Stand p l e _ (s.setVm T1.vm) m _ below meth c T1 _ _ _ := X1.retabled X1.warmed.wide
  obtain ⟨u3, T3, h3, j3, X3, e3, E3, hS3, hk3, hZ3, hown3, st3⟩ := ldcS XR2 hx hZ2 hown2 (hw _ (List.mem_of_getElem? (i := 39) rfl)) (own_wS hw) e1 hS2 hk2 (g := (mkF m 6 #[.val (.ref o1), .val (.ref act), .val (.long ord), .second] [(.ref o1), .null, (.ref b1), (.ref b1)])) rfl (hb hby d5_6) (n := 20) (by decide) (by decide) (by decide) (by decide)
  have K3 : Keep h0 h3 [] := K1.ext E3
  obtain ⟨_, _, ⟨T4, L4, k4, n4⟩, -, X4, ⟨Lc4, hQ4, l4, y4, z4⟩, st4⟩ := Jvm.LawKit.callS X3 hx (y := (⟨"java/util/Objects", "requireNonNull", "(Ljava/lang/Object;Ljava/lang/String;)Ljava/lang/Object;"⟩ : MethodName)) hown3 (mvT hZ3 (hw _ (List.mem_of_getElem? (i := 40) rfl))) (mvT hZ3 (hw _ (List.mem_of_getElem? (i := 41) rfl))) (mvT hZ3 (hw _ (List.mem_of_getElem? (i := 42) rfl))) (mvT hZ3 (hw _ (List.mem_of_getElem? (i := 43) rfl))) (by decide) (backOf (W := 3) (rm6_o1_o2 l Z a0 hw [] o1 u3 h3 n0 (Nat.le_trans Z0 K3.1)) hZ3 (hw _ (List.mem_of_getElem? (i := 43) rfl)) (hw _ (List.mem_of_getElem? (i := 42) rfl)) (by decide) (by decide)) (g := (mkF m 8 #[.val (.ref o1), .val (.ref act), .val (.long ord), .second] [(.ref u3), (.ref o1), .null, (.ref b1), (.ref b1)])) rfl (by rw [hml]; rfl) (argsL := [(.ref o1), (.ref u3)]) (rest := [.null, (.ref b1), (.ref b1)]) (lenOf pd__Ljava_lang_Object_Ljava_lang_String__Ljava_lang_Object_ rfl) rfl (by show 2 * 0 + _ ≤ _; exact Nat.le_of_eq rfl) (hb hby d5_8) (fun _ _ => ⟨rfl, e3, (by decide : 3 + 0 ≤ _), (by decide : 30 + 0 ≤ _)⟩)
  dsimp only [Pt.U, Pt.locs, Pt.cells, Pt.slots] at X4 l4 y4 z4 st4 hQ4
  subst l4 y4 z4
  obtain ⟨rfl, N4q, e4⟩ := hQ4
  have N4 := Fr.app N0 N4q
  obtain ⟨T5, X5, e5, st5⟩ := castY X4 hx hZ3 hown3 (hw _ (List.mem_of_getElem? (i := 44) rfl)) e4 (Ins.self (E_o1.keep K3)) (g := (mkF m 11 #[.val (.ref o1), .val (.ref act), .val (.long ord), .second] [(.ref o1), .null, (.ref b1), (.ref b1)])) rfl rfl (hb hby d5_11)
  obtain ⟨_, _, ⟨T6, L6, k6, n6⟩, -, X6, ⟨Lc6, hQ6, l6, y6, z6⟩, st6⟩ := Jvm.LawKit.callS X5 hx (y := (⟨"java/util/Set", "of", "()Ljava/util/Set;"⟩ : MethodName)) hown3 (mvT hZ3 (hw _ (List.mem_of_getElem? (i := 45) rfl))) (mvT hZ3 (hw _ (List.mem_of_getElem? (i := 46) rfl))) (mvT hZ3 (hw _ (List.mem_of_getElem? (i := 47) rfl))) (mvT hZ3 (hw _ (List.mem_of_getElem? (i := 48) rfl))) (by decide) (backOf (W := 8) (rm7_u l Z a0 hw [] w_EMPTY_SET h3 n0 (Nat.le_trans Z0 K3.1) (own_sta_keep S_EMPTY_SET K3)) hZ3 (hw _ (List.mem_of_getElem? (i := 48) rfl)) (hw _ (List.mem_of_getElem? (i := 47) rfl)) (by decide) (by decide)) (g := (mkF m 17 #[.val (.ref o1), .val (.ref act), .val (.long ord), .second] [(.long ord), (.ref act), .null, (.ref o1), .null, (.ref b1), (.ref b1)])) rfl (by rw [hml]; rfl) (argsL := []) (rest := [(.long ord), (.ref act), .null, (.ref o1), .null, (.ref b1), (.ref b1)]) (lenOf pd___Ljava_util_Set_ rfl) rfl (by show 2 * 0 + _ ≤ _; exact Nat.le_of_eq rfl) (hb hby d5_17) (fun _ _ => ⟨rfl, e5, (by decide : 3 + 0 ≤ _), (by decide : 30 + 0 ≤ _)⟩)
  dsimp only [Pt.U, Pt.locs, Pt.cells, Pt.slots] at X6 l6 y6 z6 st6 hQ6
  subst l6 y6 z6
  obtain ⟨rfl, N6q, e6⟩ := hQ6
  have N6 := Fr.app N4 N6q
  obtain ⟨_, _, ⟨T7, L7, k7, n7⟩, -, X7, hSq7, hgq7, ⟨Lc7, hQ7, l7, y7, z7⟩, st7⟩ := X6.specialBackS hx (y := (⟨"com/example/stanza_filter/stanzafilter/engine/PrivacyItem", "<init>", "(Lcom/example/stanza_filter/stanzafilter/engine/Jid;Ljava/lang/String;Lcom/example/stanza_filter/stanzafilter/engine/Subscription;Lcom/example/stanza_filter/stanzafilter/engine/Action;JLjava/util/Set;)V"⟩ : MethodName)) rfl hown3 (mvT hZ3 (hw _ (List.mem_of_getElem? (i := 51) rfl))) (mvT hZ3 (hw _ (List.mem_of_getElem? (i := 52) rfl))) (mvT hZ3 (hw _ (List.mem_of_getElem? (i := 53) rfl))) (by decide) (backOfS (W := 1) (rm8_o1_null_o2_null_act_ord_w_EMPTY_SET l Z a0 hw [] b1 o1 act ord w_EMPTY_SET h3 n0 (Nat.le_trans Z0 K3.1) hc16 hc25 (A1.ext E3) (F_jid_b1.ext E3) g_b1 (F_group_b1.ext E3) (F_subscription_b1.ext E3) (F_action_b1.ext E3) (F_order_b1.ext E3) (F_scopes_b1.ext E3)) hZ3 (hw _ (List.mem_of_getElem? (i := 53) rfl)) (hw _ (List.mem_of_getElem? (i := 35) rfl)) (by decide) (by decide)) (g := (mkF m 20 #[.val (.ref o1), .val (.ref act), .val (.long ord), .second] [(.ref w_EMPTY_SET), (.long ord), (.ref act), .null, (.ref o1), .null, (.ref b1), (.ref b1)])) rfl (by rw [hml]; rfl) (Steps.refl _) (a := b1) (argsL := [.null, (.ref o1), .null, (.ref act), (.long ord), (.ref w_EMPTY_SET)]) (rest := [(.ref b1)]) (lenOf pd__Lcom_example_stanza_filter_stanzafilter_engine_Jid_Ljava_lang_String_Lcom_example_stanza_filter_stanzafilter_engine_Subscription_Lcom_example_stanza_filter_stanzafilter_engine_Action_JLjava_util_Set__V rfl) rfl (by show 2 * 0 + _ ≤ _; exact Nat.le_of_eq rfl) (hb hby d5_20) (fun _ _ => ⟨rfl, e6, (by decide : 3 + 2 ≤ _), (by decide : 30 + 28 ≤ _)⟩)
  dsimp only [Pt.U, Pt.locs, Pt.cells, Pt.slots] at X7 l7 y7 z7 st7 hQ7 hSq7 hgq7
  subst l7 y7 z7
  obtain ⟨rfl, N7q, Kq7, fq7_0, fq7_1, fq7_2, fq7_3, fq7_4, fq7_5, fq7_6⟩ := hQ7
  have N7 := Fr.app N6 N7q
  have hS7 := foldS (T := T6) hS3 (own_leT e6 hk3) hSq7 hgq7
  have hk7 : T7.heap.size ≤ T7.heap.size := Nat.le_refl _
  have hZ7 : Z.Warmed39 (s.setVm T7.vm).vm := State.Warmed39.trans (t := s.setVm _) hZ3 hSq7.1
  have hown7 : (s.setVm T7.vm).vm.findClass "com/example/stanza_filter/stanzafilter/engine/PrivacyItem" = some m.cls := by rw [show (s.setVm T7.vm).vm = T7.vm from rfl, hSq7.1.alike.findClass]; exact hown3
  have XW7 : Stand p l e _ (s.setVm T7.vm) m _ below meth c T7 _ _ _ := X7
  have K7 : Keep h0 T7.heap [] := K3.trans Kq7 (allS (Or.inr sz_b1) all0)
  obtain ⟨fs, hr, hrun, hended, hend⟩ := Stand.leaveW (s := s) XW7 (v := some (.ref b1)) hS7 (own_leT rfl hk7) (fun h => by rw [Bd.returns] at h; cases h)
  refine ⟨_, _, pre0 _ ?_, hrun, hended, _, _, rfl, ?_, hend.1, hend.2.1, hend.2.2.1, hend.2.2.2.mono (by decide) (by decide)⟩
  · show Steps p.tables e below (s₁.setTop (mkF m 0 #[.val (.ref o1), .val (.ref act), .val (.long ord), .second] [])) _
    refine st1 _ ?_
    show Steps p.tables e below (T1.setTop (mkF m 3 #[.val (.ref o1), .val (.ref act), .val (.long ord), .second] [(.ref b1)])) _
    refine XS.dup X1.here hx rfl (hb hby d5_3) rfl rfl ?_
    show Steps p.tables e below (T1.setTop (mkF m 4 #[.val (.ref o1), .val (.ref act), .val (.long ord), .second] [(.ref b1), (.ref b1)])) _
    refine XS.aconstNull X1.here hx rfl (hb hby d5_4) ?_
    show Steps p.tables e below (T1.setTop (mkF m 5 #[.val (.ref o1), .val (.ref act), .val (.long ord), .second] [.null, (.ref b1), (.ref b1)])) _
    refine XS.aloadN X1.here hx rfl (hb hby d5_5) rfl rfl ?_
    show Steps p.tables e below (T1.setTop (mkF m 6 #[.val (.ref o1), .val (.ref act), .val (.long ord), .second] [(.ref o1), .null, (.ref b1), (.ref b1)])) _
    refine st3 _ ?_
    show Steps p.tables e below (T3.setTop (mkF m 8 #[.val (.ref o1), .val (.ref act), .val (.long ord), .second] [(.ref u3), (.ref o1), .null, (.ref b1), (.ref b1)])) _
    refine st4 _ ?_
    show Steps p.tables e below (T4.setTop (mkF m 11 #[.val (.ref o1), .val (.ref act), .val (.long ord), .second] [(.ref o1), .null, (.ref b1), (.ref b1)])) _
    refine st5 _ ?_
    show Steps p.tables e below (T5.setTop (mkF m 14 #[.val (.ref o1), .val (.ref act), .val (.long ord), .second] [(.ref o1), .null, (.ref b1), (.ref b1)])) _
    refine XS.aconstNull X5.here hx rfl (hb hby d5_14) ?_
    show Steps p.tables e below (T5.setTop (mkF m 15 #[.val (.ref o1), .val (.ref act), .val (.long ord), .second] [.null, (.ref o1), .null, (.ref b1), (.ref b1)])) _
    refine XS.aloadN X5.here hx rfl (hb hby d5_15) rfl rfl ?_
    show Steps p.tables e below (T5.setTop (mkF m 16 #[.val (.ref o1), .val (.ref act), .val (.long ord), .second] [(.ref act), .null, (.ref o1), .null, (.ref b1), (.ref b1)])) _
    refine XS.lloadN X5.here hx rfl (hb hby d5_16) rfl ?_
    show Steps p.tables e below (T5.setTop (mkF m 17 #[.val (.ref o1), .val (.ref act), .val (.long ord), .second] [(.long ord), (.ref act), .null, (.ref o1), .null, (.ref b1), (.ref b1)])) _
    refine st6 _ ?_
    show Steps p.tables e below (T6.setTop (mkF m 20 #[.val (.ref o1), .val (.ref act), .val (.long ord), .second] [(.ref w_EMPTY_SET), (.long ord), (.ref act), .null, (.ref o1), .null, (.ref b1), (.ref b1)])) _
    refine st7.trans ?_
    show Steps p.tables e below (T7.setTop (mkF m 23 #[.val (.ref o1), .val (.ref act), .val (.long ord), .second] [(.ref b1)])) _
    jvm_step XW7.here [XW7.here.top, hx, (hb hby d5_23), XW7.method', Bd.returns, Value.isRef, FieldType.isReference]
    first | (intro acts; rw [hr _ acts rfl rfl rfl]) | rw [hr _ _ rfl rfl rfl]
    exact Steps.refl _
  · show Q5_o1_act_ord Z o1 act ord w_EMPTY_SET h0 n0 _ T7.heap _
    exact ⟨b1, rfl, N7, K7, sz_b1, fq7_0, fq7_1, fq7_2, fq7_3, fq7_4, fq7_5, fq7_6⟩
def Q9_o1 (Z : State) (o1 : Addr) (ord : Int64) (h0 : Heap) (n0 : Nat) (v : Option Value) (h : Heap) (L : List Loc) : Prop := v = some (.long ord) ∧ Fr n0 L ∧ h = h0
set_option maxRecDepth 65536 in
set_option maxHeartbeats 40000000 in
theorem rm9_o1 (l : Launch) (Z : State) (a0 : Array Value) (hw : ∀ d ∈ tables_1, d.before a0 Z = true) (ws : List Jvm.Cond) (o1 : Addr) (ord : Int64) (h0 : Heap) (n0 : Nat) (Z0 : n0 ≤ h0.size) (F_order_o1 : Fld Z h0 o1 "com/example/stanza_filter/stanzafilter/engine/PrivacyItem" "order" "J" (.long ord)) :
    MetFree l (⟨"com/example/stanza_filter/stanzafilter/engine/PrivacyItem", "order", "()J"⟩ : MethodName) (head1 (Jvm.Cond.code (⟨"com/example/stanza_filter/stanzafilter/engine/PrivacyItem", "order", "()J"⟩ : MethodName) prog_9_method_13_code 1 (some .long) :: ws) ({ frames := 0, cells := 0, slots := 0, locals := 0 } : Room)) (fun a U => a = #[(.ref o1)] ∧ Z.Warmed39 U.vm ∧ U.heap = h0) (fun _ _ _ _ _ => True) (fun _ U o U' => ∃ v L, o = .returned v ∧ Q9_o1 Z o1 ord h0 n0 v U'.heap L ∧ FrameEnd U o U' L ({ frames := 0, cells := 0, slots := 0, locals := 0 } : Room).cells ({ frames := 0, cells := 0, slots := 0, locals := 0 } : Room).slots) := by
  refine MetFree.of_bodySF (plainFor_of_name pn_9) hisR ?_
  intro p e s m args below meth c s₁ Bd hml0 hP hK
  obtain ⟨rfl, hZ, hh⟩ := hP
  have hx := Bd.exec
  have hby := Bd.bytes
  have hml : c.maxLocals = 1 := hml0
  have hown : s.vm.findClass "com/example/stanza_filter/stanzafilter/engine/PrivacyItem" = some m.cls := findClass_of_methodNamed Bd.named
  have hnm := (name_of_methodNamed Bd.named Bd.method).1
  have X0 : Stand p l e ({ frames := 0, cells := 0, slots := 0, locals := 0 } : Room) s m #[(.ref o1)] below meth c s₁ [] 0 0 := Stand.of_body Bd
  have e0 : s₁.heap = h0 := by rw [← hh, Bd.state]; rfl
  have N0 := Fr.nil n0
  have pre0 : ∀ t, Steps p.tables e below (s₁.setTop (mkF m 0 #[.val (.ref o1)] [])) t → Steps p.tables e below (s₁.setTop (entryFrame m #[(.ref o1)] 1)) t := fun t k => castTop (by first | (simp [entryFrame, mkF, argsToLocals, Value.category]; done) | rfl) k
  obtain ⟨T1, X1, e1, st1⟩ := getF X0 hx hZ hown (host := "") (Or.inl (hw _ (List.mem_of_getElem? (i := 65) rfl))) Via.refl e0 F_order_o1 (g := (mkF m 1 #[.val (.ref o1)] [(.ref o1)])) rfl rfl (hb hby d9_1)
  obtain ⟨fs, hr, hrun, hended, hW, hsame⟩ := X1.leave (v := some (.long ord)) (fun h => by rw [Bd.returns] at h; cases h)
  refine ⟨_, _, pre0 _ ?_, hrun, hended, _, _, rfl, ?_, ⟨_, rfl⟩, hW, hsame.mono (by decide) (by decide)⟩
  · show Steps p.tables e below (s₁.setTop (mkF m 0 #[.val (.ref o1)] [])) _
    refine XS.aloadN X0.here hx rfl (hb hby d9_0) rfl rfl ?_
    show Steps p.tables e below (s₁.setTop (mkF m 1 #[.val (.ref o1)] [(.ref o1)])) _
    refine st1 _ ?_
    show Steps p.tables e below (T1.setTop (mkF m 4 #[.val (.ref o1)] [(.long ord)])) _
    jvm_step X1.here [X1.here.top, hx, (hb hby d9_4), X1.method', Bd.returns, narrow]
    first | (intro acts; rw [hr _ acts rfl rfl rfl]) | rw [hr _ _ rfl rfl rfl]
    exact Steps.refl _
  · show Q9_o1 Z o1 ord h0 n0 _ T1.heap _
    rw [e1]
    exact ⟨rfl, N0, rfl⟩
def Q10_o1 (Z : State) (o1 : Addr) (act : Addr) (h0 : Heap) (n0 : Nat) (v : Option Value) (h : Heap) (L : List Loc) : Prop := v = some (.ref act) ∧ Fr n0 L ∧ h = h0
set_option maxRecDepth 65536 in
set_option maxHeartbeats 40000000 in
theorem rm10_o1 (l : Launch) (Z : State) (a0 : Array Value) (hw : ∀ d ∈ tables_1, d.before a0 Z = true) (ws : List Jvm.Cond) (o1 : Addr) (act : Addr) (h0 : Heap) (n0 : Nat) (Z0 : n0 ≤ h0.size) (F_action_o1 : Fld Z h0 o1 "com/example/stanza_filter/stanzafilter/engine/PrivacyItem" "action" "Lcom/example/stanza_filter/stanzafilter/engine/Action;" (.ref act)) :
    MetFree l (⟨"com/example/stanza_filter/stanzafilter/engine/PrivacyItem", "action", "()Lcom/example/stanza_filter/stanzafilter/engine/Action;"⟩ : MethodName) (head1 (Jvm.Cond.code (⟨"com/example/stanza_filter/stanzafilter/engine/PrivacyItem", "action", "()Lcom/example/stanza_filter/stanzafilter/engine/Action;"⟩ : MethodName) prog_9_method_12_code 1 (some (.object "com/example/stanza_filter/stanzafilter/engine/Action")) :: ws) ({ frames := 0, cells := 0, slots := 0, locals := 0 } : Room)) (fun a U => a = #[(.ref o1)] ∧ Z.Warmed39 U.vm ∧ U.heap = h0) (fun _ _ _ _ _ => True) (fun _ U o U' => ∃ v L, o = .returned v ∧ Q10_o1 Z o1 act h0 n0 v U'.heap L ∧ FrameEnd U o U' L ({ frames := 0, cells := 0, slots := 0, locals := 0 } : Room).cells ({ frames := 0, cells := 0, slots := 0, locals := 0 } : Room).slots) := by
  refine MetFree.of_bodySF (plainFor_of_name pn_10) hisR ?_
  intro p e s m args below meth c s₁ Bd hml0 hP hK
  obtain ⟨rfl, hZ, hh⟩ := hP
  have hx := Bd.exec
  have hby := Bd.bytes
  have hml : c.maxLocals = 1 := hml0
  have hown : s.vm.findClass "com/example/stanza_filter/stanzafilter/engine/PrivacyItem" = some m.cls := findClass_of_methodNamed Bd.named
  have hnm := (name_of_methodNamed Bd.named Bd.method).1
  have X0 : Stand p l e ({ frames := 0, cells := 0, slots := 0, locals := 0 } : Room) s m #[(.ref o1)] below meth c s₁ [] 0 0 := Stand.of_body Bd
  have e0 : s₁.heap = h0 := by rw [← hh, Bd.state]; rfl
  have N0 := Fr.nil n0
  have pre0 : ∀ t, Steps p.tables e below (s₁.setTop (mkF m 0 #[.val (.ref o1)] [])) t → Steps p.tables e below (s₁.setTop (entryFrame m #[(.ref o1)] 1)) t := fun t k => castTop (by first | (simp [entryFrame, mkF, argsToLocals, Value.category]; done) | rfl) k
  obtain ⟨T1, X1, e1, st1⟩ := getF X0 hx hZ hown (host := "") (Or.inl (hw _ (List.mem_of_getElem? (i := 63) rfl))) Via.refl e0 F_action_o1 (g := (mkF m 1 #[.val (.ref o1)] [(.ref o1)])) rfl rfl (hb hby d10_1)
  obtain ⟨fs, hr, hrun, hended, hW, hsame⟩ := X1.leave (v := some (.ref act)) (fun h => by rw [Bd.returns] at h; cases h)
  refine ⟨_, _, pre0 _ ?_, hrun, hended, _, _, rfl, ?_, ⟨_, rfl⟩, hW, hsame.mono (by decide) (by decide)⟩
  · show Steps p.tables e below (s₁.setTop (mkF m 0 #[.val (.ref o1)] [])) _
    refine XS.aloadN X0.here hx rfl (hb hby d10_0) rfl rfl ?_
    show Steps p.tables e below (s₁.setTop (mkF m 1 #[.val (.ref o1)] [(.ref o1)])) _
    refine st1 _ ?_
    show Steps p.tables e below (T1.setTop (mkF m 4 #[.val (.ref o1)] [(.ref act)])) _
    jvm_step X1.here [X1.here.top, hx, (hb hby d10_4), X1.method', Bd.returns, Value.isRef, FieldType.isReference]
    first | (intro acts; rw [hr _ acts rfl rfl rfl]) | rw [hr _ _ rfl rfl rfl]
    exact Steps.refl _
  · show Q10_o1 Z o1 act h0 n0 _ T1.heap _
    rw [e1]
    exact ⟨rfl, N0, rfl⟩
def Q11_o1 (Z : State) (o1 : Addr) (h0 : Heap) (n0 : Nat) (v : Option Value) (h : Heap) (L : List Loc) : Prop := v = some .null ∧ Fr n0 L ∧ h = h0
set_option maxRecDepth 65536 in
set_option maxHeartbeats 40000000 in
theorem rm11_o1 (l : Launch) (Z : State) (a0 : Array Value) (hw : ∀ d ∈ tables_1, d.before a0 Z = true) (ws : List Jvm.Cond) (o1 : Addr) (h0 : Heap) (n0 : Nat) (Z0 : n0 ≤ h0.size) (F_jid_o1 : Fld Z h0 o1 "com/example/stanza_filter/stanzafilter/engine/PrivacyItem" "jid" "Lcom/example/stanza_filter/stanzafilter/engine/Jid;" .null) :
    MetFree l (⟨"com/example/stanza_filter/stanzafilter/engine/PrivacyItem", "jid", "()Lcom/example/stanza_filter/stanzafilter/engine/Jid;"⟩ : MethodName) (head1 (Jvm.Cond.code (⟨"com/example/stanza_filter/stanzafilter/engine/PrivacyItem", "jid", "()Lcom/example/stanza_filter/stanzafilter/engine/Jid;"⟩ : MethodName) prog_9_method_9_code 1 (some (.object "com/example/stanza_filter/stanzafilter/engine/Jid")) :: ws) ({ frames := 0, cells := 0, slots := 0, locals := 0 } : Room)) (fun a U => a = #[(.ref o1)] ∧ Z.Warmed39 U.vm ∧ U.heap = h0) (fun _ _ _ _ _ => True) (fun _ U o U' => ∃ v L, o = .returned v ∧ Q11_o1 Z o1 h0 n0 v U'.heap L ∧ FrameEnd U o U' L ({ frames := 0, cells := 0, slots := 0, locals := 0 } : Room).cells ({ frames := 0, cells := 0, slots := 0, locals := 0 } : Room).slots) := by
  refine MetFree.of_bodySF (plainFor_of_name pn_11) hisR ?_
  intro p e s m args below meth c s₁ Bd hml0 hP hK
  obtain ⟨rfl, hZ, hh⟩ := hP
  have hx := Bd.exec
  have hby := Bd.bytes
  have hml : c.maxLocals = 1 := hml0
  have hown : s.vm.findClass "com/example/stanza_filter/stanzafilter/engine/PrivacyItem" = some m.cls := findClass_of_methodNamed Bd.named
  have hnm := (name_of_methodNamed Bd.named Bd.method).1
  have X0 : Stand p l e ({ frames := 0, cells := 0, slots := 0, locals := 0 } : Room) s m #[(.ref o1)] below meth c s₁ [] 0 0 := Stand.of_body Bd
  have e0 : s₁.heap = h0 := by rw [← hh, Bd.state]; rfl
  have N0 := Fr.nil n0
  have pre0 : ∀ t, Steps p.tables e below (s₁.setTop (mkF m 0 #[.val (.ref o1)] [])) t → Steps p.tables e below (s₁.setTop (entryFrame m #[(.ref o1)] 1)) t := fun t k => castTop (by first | (simp [entryFrame, mkF, argsToLocals, Value.category]; done) | rfl) k
  obtain ⟨T1, X1, e1, st1⟩ := getF X0 hx hZ hown (host := "") (Or.inl (hw _ (List.mem_of_getElem? (i := 57) rfl))) Via.refl e0 F_jid_o1 (g := (mkF m 1 #[.val (.ref o1)] [(.ref o1)])) rfl rfl (hb hby d11_1)
  obtain ⟨fs, hr, hrun, hended, hW, hsame⟩ := X1.leave (v := some .null) (fun h => by rw [Bd.returns] at h; cases h)
  refine ⟨_, _, pre0 _ ?_, hrun, hended, _, _, rfl, ?_, ⟨_, rfl⟩, hW, hsame.mono (by decide) (by decide)⟩
  · show Steps p.tables e below (s₁.setTop (mkF m 0 #[.val (.ref o1)] [])) _
    refine XS.aloadN X0.here hx rfl (hb hby d11_0) rfl rfl ?_
    show Steps p.tables e below (s₁.setTop (mkF m 1 #[.val (.ref o1)] [(.ref o1)])) _
    refine st1 _ ?_
    show Steps p.tables e below (T1.setTop (mkF m 4 #[.val (.ref o1)] [.null])) _
    jvm_step X1.here [X1.here.top, hx, (hb hby d11_4), X1.method', Bd.returns, Value.isRef, FieldType.isReference]
    first | (intro acts; rw [hr _ acts rfl rfl rfl]) | rw [hr _ _ rfl rfl rfl]
    exact Steps.refl _
  · show Q11_o1 Z o1 h0 n0 _ T1.heap _
    rw [e1]
    exact ⟨rfl, N0, rfl⟩
def Q12_o1 (Z : State) (o1 : Addr) (h0 : Heap) (n0 : Nat) (v : Option Value) (h : Heap) (L : List Loc) : Prop := v = some .null ∧ Fr n0 L ∧ h = h0
set_option maxRecDepth 65536 in
set_option maxHeartbeats 40000000 in
theorem rm12_o1 (l : Launch) (Z : State) (a0 : Array Value) (hw : ∀ d ∈ tables_1, d.before a0 Z = true) (ws : List Jvm.Cond) (o1 : Addr) (h0 : Heap) (n0 : Nat) (Z0 : n0 ≤ h0.size) (F_subscription_o1 : Fld Z h0 o1 "com/example/stanza_filter/stanzafilter/engine/PrivacyItem" "subscription" "Lcom/example/stanza_filter/stanzafilter/engine/Subscription;" .null) :
    MetFree l (⟨"com/example/stanza_filter/stanzafilter/engine/PrivacyItem", "subscription", "()Lcom/example/stanza_filter/stanzafilter/engine/Subscription;"⟩ : MethodName) (head1 (Jvm.Cond.code (⟨"com/example/stanza_filter/stanzafilter/engine/PrivacyItem", "subscription", "()Lcom/example/stanza_filter/stanzafilter/engine/Subscription;"⟩ : MethodName) prog_9_method_11_code 1 (some (.object "com/example/stanza_filter/stanzafilter/engine/Subscription")) :: ws) ({ frames := 0, cells := 0, slots := 0, locals := 0 } : Room)) (fun a U => a = #[(.ref o1)] ∧ Z.Warmed39 U.vm ∧ U.heap = h0) (fun _ _ _ _ _ => True) (fun _ U o U' => ∃ v L, o = .returned v ∧ Q12_o1 Z o1 h0 n0 v U'.heap L ∧ FrameEnd U o U' L ({ frames := 0, cells := 0, slots := 0, locals := 0 } : Room).cells ({ frames := 0, cells := 0, slots := 0, locals := 0 } : Room).slots) := by
  refine MetFree.of_bodySF (plainFor_of_name pn_12) hisR ?_
  intro p e s m args below meth c s₁ Bd hml0 hP hK
  obtain ⟨rfl, hZ, hh⟩ := hP
  have hx := Bd.exec
  have hby := Bd.bytes
  have hml : c.maxLocals = 1 := hml0
  have hown : s.vm.findClass "com/example/stanza_filter/stanzafilter/engine/PrivacyItem" = some m.cls := findClass_of_methodNamed Bd.named
  have hnm := (name_of_methodNamed Bd.named Bd.method).1
  have X0 : Stand p l e ({ frames := 0, cells := 0, slots := 0, locals := 0 } : Room) s m #[(.ref o1)] below meth c s₁ [] 0 0 := Stand.of_body Bd
  have e0 : s₁.heap = h0 := by rw [← hh, Bd.state]; rfl
  have N0 := Fr.nil n0
  have pre0 : ∀ t, Steps p.tables e below (s₁.setTop (mkF m 0 #[.val (.ref o1)] [])) t → Steps p.tables e below (s₁.setTop (entryFrame m #[(.ref o1)] 1)) t := fun t k => castTop (by first | (simp [entryFrame, mkF, argsToLocals, Value.category]; done) | rfl) k
  obtain ⟨T1, X1, e1, st1⟩ := getF X0 hx hZ hown (host := "") (Or.inl (hw _ (List.mem_of_getElem? (i := 61) rfl))) Via.refl e0 F_subscription_o1 (g := (mkF m 1 #[.val (.ref o1)] [(.ref o1)])) rfl rfl (hb hby d12_1)
  obtain ⟨fs, hr, hrun, hended, hW, hsame⟩ := X1.leave (v := some .null) (fun h => by rw [Bd.returns] at h; cases h)
  refine ⟨_, _, pre0 _ ?_, hrun, hended, _, _, rfl, ?_, ⟨_, rfl⟩, hW, hsame.mono (by decide) (by decide)⟩
  · show Steps p.tables e below (s₁.setTop (mkF m 0 #[.val (.ref o1)] [])) _
    refine XS.aloadN X0.here hx rfl (hb hby d12_0) rfl rfl ?_
    show Steps p.tables e below (s₁.setTop (mkF m 1 #[.val (.ref o1)] [(.ref o1)])) _
    refine st1 _ ?_
    show Steps p.tables e below (T1.setTop (mkF m 4 #[.val (.ref o1)] [.null])) _
    jvm_step X1.here [X1.here.top, hx, (hb hby d12_4), X1.method', Bd.returns, Value.isRef, FieldType.isReference]
    first | (intro acts; rw [hr _ acts rfl rfl rfl]) | rw [hr _ _ rfl rfl rfl]
    exact Steps.refl _
  · show Q12_o1 Z o1 h0 n0 _ T1.heap _
    rw [e1]
    exact ⟨rfl, N0, rfl⟩
def Q13_o1 (Z : State) (o1 : Addr) (o2 : Addr) (h0 : Heap) (n0 : Nat) (v : Option Value) (h : Heap) (L : List Loc) : Prop := v = some (.ref o2) ∧ Fr n0 L ∧ h = h0
set_option maxRecDepth 65536 in
set_option maxHeartbeats 40000000 in
theorem rm13_o1 (l : Launch) (Z : State) (a0 : Array Value) (hw : ∀ d ∈ tables_1, d.before a0 Z = true) (ws : List Jvm.Cond) (o1 : Addr) (o2 : Addr) (h0 : Heap) (n0 : Nat) (Z0 : n0 ≤ h0.size) (F_group_o1 : Fld Z h0 o1 "com/example/stanza_filter/stanzafilter/engine/PrivacyItem" "group" "Ljava/lang/String;" (.ref o2)) :
    MetFree l (⟨"com/example/stanza_filter/stanzafilter/engine/PrivacyItem", "group", "()Ljava/lang/String;"⟩ : MethodName) (head1 (Jvm.Cond.code (⟨"com/example/stanza_filter/stanzafilter/engine/PrivacyItem", "group", "()Ljava/lang/String;"⟩ : MethodName) prog_9_method_10_code 1 (some (.object "java/lang/String")) :: ws) ({ frames := 0, cells := 0, slots := 0, locals := 0 } : Room)) (fun a U => a = #[(.ref o1)] ∧ Z.Warmed39 U.vm ∧ U.heap = h0) (fun _ _ _ _ _ => True) (fun _ U o U' => ∃ v L, o = .returned v ∧ Q13_o1 Z o1 o2 h0 n0 v U'.heap L ∧ FrameEnd U o U' L ({ frames := 0, cells := 0, slots := 0, locals := 0 } : Room).cells ({ frames := 0, cells := 0, slots := 0, locals := 0 } : Room).slots) := by
  refine MetFree.of_bodySF (plainFor_of_name pn_13) hisR ?_
  intro p e s m args below meth c s₁ Bd hml0 hP hK
  obtain ⟨rfl, hZ, hh⟩ := hP
  have hx := Bd.exec
  have hby := Bd.bytes
  have hml : c.maxLocals = 1 := hml0
  have hown : s.vm.findClass "com/example/stanza_filter/stanzafilter/engine/PrivacyItem" = some m.cls := findClass_of_methodNamed Bd.named
  have hnm := (name_of_methodNamed Bd.named Bd.method).1
  have X0 : Stand p l e ({ frames := 0, cells := 0, slots := 0, locals := 0 } : Room) s m #[(.ref o1)] below meth c s₁ [] 0 0 := Stand.of_body Bd
  have e0 : s₁.heap = h0 := by rw [← hh, Bd.state]; rfl
  have N0 := Fr.nil n0
  have pre0 : ∀ t, Steps p.tables e below (s₁.setTop (mkF m 0 #[.val (.ref o1)] [])) t → Steps p.tables e below (s₁.setTop (entryFrame m #[(.ref o1)] 1)) t := fun t k => castTop (by first | (simp [entryFrame, mkF, argsToLocals, Value.category]; done) | rfl) k
  obtain ⟨T1, X1, e1, st1⟩ := getF X0 hx hZ hown (host := "") (Or.inl (hw _ (List.mem_of_getElem? (i := 59) rfl))) Via.refl e0 F_group_o1 (g := (mkF m 1 #[.val (.ref o1)] [(.ref o1)])) rfl rfl (hb hby d13_1)
  obtain ⟨fs, hr, hrun, hended, hW, hsame⟩ := X1.leave (v := some (.ref o2)) (fun h => by rw [Bd.returns] at h; cases h)
  refine ⟨_, _, pre0 _ ?_, hrun, hended, _, _, rfl, ?_, ⟨_, rfl⟩, hW, hsame.mono (by decide) (by decide)⟩
  · show Steps p.tables e below (s₁.setTop (mkF m 0 #[.val (.ref o1)] [])) _
    refine XS.aloadN X0.here hx rfl (hb hby d13_0) rfl rfl ?_
    show Steps p.tables e below (s₁.setTop (mkF m 1 #[.val (.ref o1)] [(.ref o1)])) _
    refine st1 _ ?_
    show Steps p.tables e below (T1.setTop (mkF m 4 #[.val (.ref o1)] [(.ref o2)])) _
    jvm_step X1.here [X1.here.top, hx, (hb hby d13_4), X1.method', Bd.returns, Value.isRef, FieldType.isReference]
    first | (intro acts; rw [hr _ acts rfl rfl rfl]) | rw [hr _ _ rfl rfl rfl]
    exact Steps.refl _
  · show Q13_o1 Z o1 o2 h0 n0 _ T1.heap _
    rw [e1]
    exact ⟨rfl, N0, rfl⟩
def Q14_o1_o1 (Z : State) (o1 : Addr) (h0 : Heap) (n0 : Nat) (v : Option Value) (h : Heap) (L : List Loc) : Prop := v = some (.int 1) ∧ Fr n0 L ∧ h = h0
set_option maxRecDepth 65536 in
set_option maxHeartbeats 40000000 in
theorem rm14_o1_o1 (l : Launch) (Z : State) (a0 : Array Value) (hw : ∀ d ∈ tables_1, d.before a0 Z = true) (ws : List Jvm.Cond) (o1 : Addr) (h0 : Heap) (n0 : Nat) (Z0 : n0 ≤ h0.size) :
    MetFree l (⟨"java/lang/String", "equals", "(Ljava/lang/Object;)Z"⟩ : MethodName) (head1 (Jvm.Cond.code (⟨"java/lang/String", "equals", "(Ljava/lang/Object;)Z"⟩ : MethodName) jdk_42_method_66_code 3 (some .boolean) :: ws) ({ frames := 0, cells := 0, slots := 0, locals := 0 } : Room)) (fun a U => a = #[(.ref o1), (.ref o1)] ∧ Z.Warmed39 U.vm ∧ U.heap = h0) (fun _ _ _ _ _ => True) (fun _ U o U' => ∃ v L, o = .returned v ∧ Q14_o1_o1 Z o1 h0 n0 v U'.heap L ∧ FrameEnd U o U' L ({ frames := 0, cells := 0, slots := 0, locals := 0 } : Room).cells ({ frames := 0, cells := 0, slots := 0, locals := 0 } : Room).slots) := by
  refine MetFree.of_bodySF (plainFor_of_name pn_14) hisR ?_
  intro p e s m args below meth c s₁ Bd hml0 hP hK
  obtain ⟨rfl, hZ, hh⟩ := hP
  have hx := Bd.exec
  have hby := Bd.bytes
  have hml : c.maxLocals = 3 := hml0
  have hown : s.vm.findClass "java/lang/String" = some m.cls := findClass_of_methodNamed Bd.named
  have hnm := (name_of_methodNamed Bd.named Bd.method).1
  have X0 : Stand p l e ({ frames := 0, cells := 0, slots := 0, locals := 0 } : Room) s m #[(.ref o1), (.ref o1)] below meth c s₁ [] 0 0 := Stand.of_body Bd
  have e0 : s₁.heap = h0 := by rw [← hh, Bd.state]; rfl
  have N0 := Fr.nil n0
  have pre0 : ∀ t, Steps p.tables e below (s₁.setTop (mkF m 0 #[.val (.ref o1), .val (.ref o1), .unset] [])) t → Steps p.tables e below (s₁.setTop (entryFrame m #[(.ref o1), (.ref o1)] 3)) t := fun t k => castTop (by first | (simp [entryFrame, mkF, argsToLocals, Value.category]; done) | rfl) k
  obtain ⟨fs, hr, hrun, hended, hW, hsame⟩ := X0.leave (v := some (.int 1)) (fun h => by rw [Bd.returns] at h; cases h)
  refine ⟨_, _, pre0 _ ?_, hrun, hended, _, _, rfl, ?_, ⟨_, rfl⟩, hW, hsame.mono (by decide) (by decide)⟩
  · show Steps p.tables e below (s₁.setTop (mkF m 0 #[.val (.ref o1), .val (.ref o1), .unset] [])) _
    refine XS.aloadN X0.here hx rfl (hb hby d14_0) rfl rfl ?_
    show Steps p.tables e below (s₁.setTop (mkF m 1 #[.val (.ref o1), .val (.ref o1), .unset] [(.ref o1)])) _
    refine XS.aloadN X0.here hx rfl (hb hby d14_1) rfl rfl ?_
    show Steps p.tables e below (s₁.setTop (mkF m 2 #[.val (.ref o1), .val (.ref o1), .unset] [(.ref o1), (.ref o1)])) _
    refine Jvm.RoadKit.acmp (g := (mkF m 2 #[.val (.ref o1), .val (.ref o1), .unset] [(.ref o1), (.ref o1)])) X0 hx rfl rfl rfl (pc0 := 2) (pc' := 5) (same := true) rfl (hb hby d14_2) rfl (decide_eq_true rfl) (by decide) (by decide) ?_
    show Steps p.tables e below (s₁.setTop (mkF m 5 #[.val (.ref o1), .val (.ref o1), .unset] [])) _
    refine XS.iconst X0.here hx rfl (hb hby d14_5) ?_
    show Steps p.tables e below (s₁.setTop (mkF m 6 #[.val (.ref o1), .val (.ref o1), .unset] [(.int 1)])) _
    exact retN X0 hx (t := .boolean) Bd.returns (by simp) (hb hby d14_6) hr
  · show Q14_o1_o1 Z o1 h0 n0 _ s₁.heap _
    rw [e0]
    exact ⟨rfl, N0, rfl⟩
def Q16_w_EMPTY_SET (Z : State) (w_EMPTY_SET : Addr) (h0 : Heap) (n0 : Nat) (v : Option Value) (h : Heap) (L : List Loc) : Prop := v = some (.int 1) ∧ Fr n0 L ∧ h = h0
set_option maxRecDepth 65536 in
set_option maxHeartbeats 40000000 in
theorem rm16_w_EMPTY_SET (l : Launch) (Z : State) (a0 : Array Value) (hw : ∀ d ∈ tables_1, d.before a0 Z = true) (ws : List Jvm.Cond) (w_EMPTY_SET : Addr) (h0 : Heap) (n0 : Nat) (Z0 : n0 ≤ h0.size) (F_size_w_EMPTY_SET : Fld Z h0 w_EMPTY_SET "java/util/ImmutableCollections$SetN" "size" "I" (.int 0)) :
    MetFree l (⟨"java/util/ImmutableCollections$SetN", "isEmpty", "()Z"⟩ : MethodName) (head1 (Jvm.Cond.code (⟨"java/util/ImmutableCollections$SetN", "isEmpty", "()Z"⟩ : MethodName) jdk_132_method_3_code 1 (some .boolean) :: ws) ({ frames := 0, cells := 0, slots := 0, locals := 0 } : Room)) (fun a U => a = #[(.ref w_EMPTY_SET)] ∧ Z.Warmed39 U.vm ∧ U.heap = h0) (fun _ _ _ _ _ => True) (fun _ U o U' => ∃ v L, o = .returned v ∧ Q16_w_EMPTY_SET Z w_EMPTY_SET h0 n0 v U'.heap L ∧ FrameEnd U o U' L ({ frames := 0, cells := 0, slots := 0, locals := 0 } : Room).cells ({ frames := 0, cells := 0, slots := 0, locals := 0 } : Room).slots) := by
  refine MetFree.of_bodySF (plainFor_of_name pn_16) hisR ?_
  intro p e s m args below meth c s₁ Bd hml0 hP hK
  obtain ⟨rfl, hZ, hh⟩ := hP
  have hx := Bd.exec
  have hby := Bd.bytes
  have hml : c.maxLocals = 1 := hml0
  have hown : s.vm.findClass "java/util/ImmutableCollections$SetN" = some m.cls := findClass_of_methodNamed Bd.named
  have hnm := (name_of_methodNamed Bd.named Bd.method).1
  have X0 : Stand p l e ({ frames := 0, cells := 0, slots := 0, locals := 0 } : Room) s m #[(.ref w_EMPTY_SET)] below meth c s₁ [] 0 0 := Stand.of_body Bd
  have e0 : s₁.heap = h0 := by rw [← hh, Bd.state]; rfl
  have N0 := Fr.nil n0
  have pre0 : ∀ t, Steps p.tables e below (s₁.setTop (mkF m 0 #[.val (.ref w_EMPTY_SET)] [])) t → Steps p.tables e below (s₁.setTop (entryFrame m #[(.ref w_EMPTY_SET)] 1)) t := fun t k => castTop (by first | (simp [entryFrame, mkF, argsToLocals, Value.category]; done) | rfl) k
  obtain ⟨T1, X1, e1, st1⟩ := getF X0 hx hZ hown (host := "") (Or.inl (hw _ (List.mem_of_getElem? (i := 114) rfl))) Via.refl e0 F_size_w_EMPTY_SET (g := (mkF m 1 #[.val (.ref w_EMPTY_SET)] [(.ref w_EMPTY_SET)])) rfl rfl (hb hby d16_1)
  obtain ⟨fs, hr, hrun, hended, hW, hsame⟩ := X1.leave (v := some (.int 1)) (fun h => by rw [Bd.returns] at h; cases h)
  refine ⟨_, _, pre0 _ ?_, hrun, hended, _, _, rfl, ?_, ⟨_, rfl⟩, hW, hsame.mono (by decide) (by decide)⟩
  · show Steps p.tables e below (s₁.setTop (mkF m 0 #[.val (.ref w_EMPTY_SET)] [])) _
    refine XS.aloadN X0.here hx rfl (hb hby d16_0) rfl rfl ?_
    show Steps p.tables e below (s₁.setTop (mkF m 1 #[.val (.ref w_EMPTY_SET)] [(.ref w_EMPTY_SET)])) _
    refine st1 _ ?_
    show Steps p.tables e below (T1.setTop (mkF m 4 #[.val (.ref w_EMPTY_SET)] [(.int 0)])) _
    refine XS.ifNo X1.here hx rfl (hb hby d16_4) rfl ((if0 _ _).trans (teq (by decide : (0 : Int32) = (0 : Int32))).2) ?_
    show Steps p.tables e below (T1.setTop (mkF m 7 #[.val (.ref w_EMPTY_SET)] [])) _
    refine XS.iconst X1.here hx rfl (hb hby d16_7) ?_
    show Steps p.tables e below (T1.setTop (mkF m 8 #[.val (.ref w_EMPTY_SET)] [(.int 1)])) _
    refine XS.goto X1.here hx rfl (pc0 := 8) (pc' := 12) rfl (hb hby d16_8) (by decide) (by decide) ?_
    show Steps p.tables e below (T1.setTop (mkF m 12 #[.val (.ref w_EMPTY_SET)] [(.int 1)])) _
    exact retN X1 hx (t := .boolean) Bd.returns (by simp) (hb hby d16_12) hr
  · show Q16_w_EMPTY_SET Z w_EMPTY_SET h0 n0 _ T1.heap _
    rw [e1]
    exact ⟨rfl, N0, rfl⟩
def Q15_o1_null (Z : State) (o1 : Addr) (w_EMPTY_SET : Addr) (h0 : Heap) (n0 : Nat) (v : Option Value) (h : Heap) (L : List Loc) : Prop := v = some (.int 1) ∧ Fr n0 L ∧ h = h0
set_option maxRecDepth 65536 in
set_option maxHeartbeats 40000000 in
theorem rm15_o1_null (l : Launch) (Z : State) (a0 : Array Value) (hw : ∀ d ∈ tables_1, d.before a0 Z = true) (ws : List Jvm.Cond) (o1 : Addr) (w_EMPTY_SET : Addr) (h0 : Heap) (n0 : Nat) (Z0 : n0 ≤ h0.size) (F_scopes_o1 : Fld Z h0 o1 "com/example/stanza_filter/stanzafilter/engine/PrivacyItem" "scopes" "Ljava/util/Set;" (.ref w_EMPTY_SET)) (F_size_w_EMPTY_SET : Fld Z h0 w_EMPTY_SET "java/util/ImmutableCollections$SetN" "size" "I" (.int 0)) (E_w_EMPTY_SET : Exa Z h0 w_EMPTY_SET "java/util/ImmutableCollections$SetN") :
    MetFree l (⟨"com/example/stanza_filter/stanzafilter/engine/PrivacyItem", "covers", "(Lcom/example/stanza_filter/stanzafilter/engine/Scope;)Z"⟩ : MethodName) (head1 (Jvm.Cond.code (⟨"com/example/stanza_filter/stanzafilter/engine/PrivacyItem", "covers", "(Lcom/example/stanza_filter/stanzafilter/engine/Scope;)Z"⟩ : MethodName) prog_9_method_15_code 2 (some .boolean) :: ws) ({ frames := 1, cells := 0, slots := 0, locals := 12 } : Room)) (fun a U => a = #[(.ref o1), .null] ∧ Z.Warmed39 U.vm ∧ U.heap = h0) (fun _ _ _ _ _ => True) (fun _ U o U' => ∃ v L, o = .returned v ∧ Q15_o1_null Z o1 w_EMPTY_SET h0 n0 v U'.heap L ∧ FrameEnd U o U' L ({ frames := 1, cells := 0, slots := 0, locals := 12 } : Room).cells ({ frames := 1, cells := 0, slots := 0, locals := 12 } : Room).slots) := by
  refine MetFree.of_bodySF (plainFor_of_name pn_15) hisR ?_
  intro p e s m args below meth c s₁ Bd hml0 hP hK
  obtain ⟨rfl, hZ, hh⟩ := hP
  have hx := Bd.exec
  have hby := Bd.bytes
  have hml : c.maxLocals = 2 := hml0
  have hown : s.vm.findClass "com/example/stanza_filter/stanzafilter/engine/PrivacyItem" = some m.cls := findClass_of_methodNamed Bd.named
  have hnm := (name_of_methodNamed Bd.named Bd.method).1
  have X0 : Stand p l e ({ frames := 1, cells := 0, slots := 0, locals := 12 } : Room) s m #[(.ref o1), .null] below meth c s₁ [] 0 0 := Stand.of_body Bd
  have e0 : s₁.heap = h0 := by rw [← hh, Bd.state]; rfl
  have N0 := Fr.nil n0
  have pre0 : ∀ t, Steps p.tables e below (s₁.setTop (mkF m 0 #[.val (.ref o1), .val .null] [])) t → Steps p.tables e below (s₁.setTop (entryFrame m #[(.ref o1), .null] 2)) t := fun t k => castTop (by first | (simp [entryFrame, mkF, argsToLocals, Value.category]; done) | rfl) k
  obtain ⟨T1, X1, e1, st1⟩ := getF X0 hx hZ hown (host := "") (Or.inl (hw _ (List.mem_of_getElem? (i := 67) rfl))) Via.refl e0 F_scopes_o1 (g := (mkF m 1 #[.val (.ref o1), .val .null] [(.ref o1)])) rfl rfl (hb hby d15_1)
  obtain ⟨cq2, kq2, q2a, q2b, q2c⟩ := isOf hZ e1 E_w_EMPTY_SET
  obtain ⟨_, _, ⟨T2, L2, k2, n2⟩, -, X2, ⟨Lc2, hQ2, l2, y2, z2⟩, st2⟩ := X1.interfaceBack hx (xi := (⟨"java/util/Set", "isEmpty", "()Z"⟩ : MethodName)) (y := (⟨"java/util/ImmutableCollections$SetN", "isEmpty", "()Z"⟩ : MethodName)) hown (mvT hZ (hw _ (List.mem_of_getElem? (i := 104) rfl))) (mvT hZ (hw _ (List.mem_of_getElem? (i := 105) rfl))) (mvT hZ (hw _ (List.mem_of_getElem? (i := 106) rfl))) (mvT hZ (hw _ (List.mem_of_getElem? (i := 107) rfl))) (mvT hZ (hw _ (List.mem_of_getElem? (i := 108) rfl))) (mvT hZ (hw _ (List.mem_of_getElem? (i := 109) rfl))) (mvT hZ (hw _ (List.mem_of_getElem? (i := 110) rfl))) (mvT hZ (hw _ (List.mem_of_getElem? (i := 111) rfl))) (by decide) (backOf (W := 0) (rm16_w_EMPTY_SET l Z a0 hw [] w_EMPTY_SET h0 n0 Z0 F_size_w_EMPTY_SET) hZ (hw _ (List.mem_of_getElem? (i := 113) rfl)) (hw _ (List.mem_of_getElem? (i := 112) rfl)) (by decide) (by decide)) q2a q2b q2c (g := (mkF m 4 #[.val (.ref o1), .val .null] [(.ref w_EMPTY_SET)])) rfl (by rw [hml]; rfl) (Steps.refl _) (argsL := []) (rest := []) (lenOf pd___Z rfl) rfl (by show 2 * 0 + _ ≤ _; exact Nat.le_of_eq rfl) (hb hby d15_4) (fun _ _ => ⟨rfl, e1, (by decide : 0 + 0 ≤ _), (by decide : 0 + 0 ≤ _)⟩)
  dsimp only [Pt.U, Pt.locs, Pt.cells, Pt.slots] at X2 l2 y2 z2 st2 hQ2
  subst l2 y2 z2
  obtain ⟨rfl, N2q, e2⟩ := hQ2
  have N2 := Fr.app N0 N2q
  obtain ⟨fs, hr, hrun, hended, hW, hsame⟩ := X2.leave (v := some (.int 1)) (fun h => by rw [Bd.returns] at h; cases h)
  refine ⟨_, _, pre0 _ ?_, hrun, hended, _, _, rfl, ?_, ⟨_, rfl⟩, hW, hsame.mono (by decide) (by decide)⟩
  · show Steps p.tables e below (s₁.setTop (mkF m 0 #[.val (.ref o1), .val .null] [])) _
    refine XS.aloadN X0.here hx rfl (hb hby d15_0) rfl rfl ?_
    show Steps p.tables e below (s₁.setTop (mkF m 1 #[.val (.ref o1), .val .null] [(.ref o1)])) _
    refine st1 _ ?_
    show Steps p.tables e below (T1.setTop (mkF m 4 #[.val (.ref o1), .val .null] [(.ref w_EMPTY_SET)])) _
    refine st2.trans ?_
    show Steps p.tables e below (T2.setTop (mkF m 9 #[.val (.ref o1), .val .null] [(.int 1)])) _
    refine XS.ifYes X2.here hx rfl (pc0 := 9) (pc' := 25) rfl (hb hby d15_9) rfl ((if0 _ _).trans (feq (by decide : ¬ ((1 : Int32) = (0 : Int32)))).2) (by decide) (by decide) ?_
    show Steps p.tables e below (T2.setTop (mkF m 25 #[.val (.ref o1), .val .null] [])) _
    refine XS.iconst X2.here hx rfl (hb hby d15_25) ?_
    show Steps p.tables e below (T2.setTop (mkF m 26 #[.val (.ref o1), .val .null] [(.int 1)])) _
    refine XS.goto X2.here hx rfl (pc0 := 26) (pc' := 30) rfl (hb hby d15_26) (by decide) (by decide) ?_
    show Steps p.tables e below (T2.setTop (mkF m 30 #[.val (.ref o1), .val .null] [(.int 1)])) _
    exact retN X2 hx (t := .boolean) Bd.returns (by simp) (hb hby d15_30) hr
  · show Q15_o1_null Z o1 w_EMPTY_SET h0 n0 _ T2.heap _
    rw [e2]
    exact ⟨rfl, N2, rfl⟩
def Q17_o1 (Z : State) (o1 : Addr) (h0 : Heap) (n0 : Nat) (v : Option Value) (h : Heap) (L : List Loc) : Prop := v = some (.int 0) ∧ Fr n0 L ∧ h = h0
set_option maxRecDepth 65536 in
set_option maxHeartbeats 40000000 in
theorem rm17_o1 (l : Launch) (Z : State) (a0 : Array Value) (hw : ∀ d ∈ tables_1, d.before a0 Z = true) (ws : List Jvm.Cond) (o1 : Addr) (h0 : Heap) (n0 : Nat) (Z0 : n0 ≤ h0.size) (F_jid_o1 : Fld Z h0 o1 "com/example/stanza_filter/stanzafilter/engine/PrivacyItem" "jid" "Lcom/example/stanza_filter/stanzafilter/engine/Jid;" .null) :
    MetFree l (⟨"com/example/stanza_filter/stanzafilter/engine/PrivacyItem", "isBlocklistEntry", "()Z"⟩ : MethodName) (head1 (Jvm.Cond.code (⟨"com/example/stanza_filter/stanzafilter/engine/PrivacyItem", "isBlocklistEntry", "()Z"⟩ : MethodName) prog_9_method_8_code 1 (some .boolean) :: ws) ({ frames := 0, cells := 0, slots := 0, locals := 0 } : Room)) (fun a U => a = #[(.ref o1)] ∧ Z.Warmed39 U.vm ∧ U.heap = h0) (fun _ _ _ _ _ => True) (fun _ U o U' => ∃ v L, o = .returned v ∧ Q17_o1 Z o1 h0 n0 v U'.heap L ∧ FrameEnd U o U' L ({ frames := 0, cells := 0, slots := 0, locals := 0 } : Room).cells ({ frames := 0, cells := 0, slots := 0, locals := 0 } : Room).slots) := by
  refine MetFree.of_bodySF (plainFor_of_name pn_17) hisR ?_
  intro p e s m args below meth c s₁ Bd hml0 hP hK
  obtain ⟨rfl, hZ, hh⟩ := hP
  have hx := Bd.exec
  have hby := Bd.bytes
  have hml : c.maxLocals = 1 := hml0
  have hown : s.vm.findClass "com/example/stanza_filter/stanzafilter/engine/PrivacyItem" = some m.cls := findClass_of_methodNamed Bd.named
  have hnm := (name_of_methodNamed Bd.named Bd.method).1
  have X0 : Stand p l e ({ frames := 0, cells := 0, slots := 0, locals := 0 } : Room) s m #[(.ref o1)] below meth c s₁ [] 0 0 := Stand.of_body Bd
  have e0 : s₁.heap = h0 := by rw [← hh, Bd.state]; rfl
  have N0 := Fr.nil n0
  have pre0 : ∀ t, Steps p.tables e below (s₁.setTop (mkF m 0 #[.val (.ref o1)] [])) t → Steps p.tables e below (s₁.setTop (entryFrame m #[(.ref o1)] 1)) t := fun t k => castTop (by first | (simp [entryFrame, mkF, argsToLocals, Value.category]; done) | rfl) k
  obtain ⟨T1, X1, e1, st1⟩ := getF X0 hx hZ hown (host := "") (Or.inl (hw _ (List.mem_of_getElem? (i := 57) rfl))) Via.refl e0 F_jid_o1 (g := (mkF m 1 #[.val (.ref o1)] [(.ref o1)])) rfl rfl (hb hby d17_1)
  obtain ⟨fs, hr, hrun, hended, hW, hsame⟩ := X1.leave (v := some (.int 0)) (fun h => by rw [Bd.returns] at h; cases h)
  refine ⟨_, _, pre0 _ ?_, hrun, hended, _, _, rfl, ?_, ⟨_, rfl⟩, hW, hsame.mono (by decide) (by decide)⟩
  · show Steps p.tables e below (s₁.setTop (mkF m 0 #[.val (.ref o1)] [])) _
    refine XS.aloadN X0.here hx rfl (hb hby d17_0) rfl rfl ?_
    show Steps p.tables e below (s₁.setTop (mkF m 1 #[.val (.ref o1)] [(.ref o1)])) _
    refine st1 _ ?_
    show Steps p.tables e below (T1.setTop (mkF m 4 #[.val (.ref o1)] [.null])) _
    refine XS.ifnullYes X1.here hx rfl (pc0 := 4) (pc' := 33) rfl (hb hby d17_4) rfl (by decide) (by decide) ?_
    show Steps p.tables e below (T1.setTop (mkF m 33 #[.val (.ref o1)] [])) _
    refine XS.iconst X1.here hx rfl (hb hby d17_33) ?_
    show Steps p.tables e below (T1.setTop (mkF m 34 #[.val (.ref o1)] [(.int 0)])) _
    exact retN X1 hx (t := .boolean) Bd.returns (by simp) (hb hby d17_34) hr
  · show Q17_o1 Z o1 h0 n0 _ T1.heap _
    rw [e1]
    exact ⟨rfl, N0, rfl⟩
set_option maxRecDepth 65536 in
set_option maxHeartbeats 40000000 in
theorem pc0_D0 {p : Program} {l : Launch} {e : Env} {s : State} {m : MethodId} {args : Array Value} {below : List Frame} {meth : Method} {c : Code} {T0 : State} {locs : List Loc} {Z : State} {a0 : Array Value} {h0 : Heap} {n0 : Nat} {vm0 : Vm} {k0 : Nat} (q1 : Int64) (p2 : Int32) (p3 : Int32) (p4 : Int32) (p5 : Int32) (ord : Int64) (act : Addr) (sc : Int32) (ln : Int32) (x0 : Int32) (x1 : Int32) (x2 : Int32) (o9 : Addr) (w_EMPTY_SET : Addr)
    (X0 : Stand p l e room_1 (s.setVm vm0) m args below meth c T0 locs 4 10) (hx : p.tables.exec = Jvm.exec) (hZ : Z.Warmed39 (s.setVm vm0).vm) (hw : ∀ d ∈ tables_1, d.before a0 Z = true) (hby : c.code = code) (hml : c.maxLocals = 17) (hown : (s.setVm vm0).vm.findClass "com/example/stanza_filter/stanzafilter/engine/PrivacyItemGroupPinLaw" = some m.cls) (e0 : T0.heap = h0) (Z0 : n0 ≤ h0.size) (N0 : Fr n0 locs) (hS : s.Since vm0 k0) (hk : k0 ≤ h0.size) (E_o9 : Exa Z h0 o9 "java/lang/String") (S_EMPTY_SET : Sta Z h0 "java/util/ImmutableCollections" "EMPTY_SET" "Ljava/util/ImmutableCollections$SetN;" (.ref w_EMPTY_SET)) (hc16 : ¬ ((lcmpW ord (0 : Int64)) < (0 : Int32))) (hc25 : ¬ ((0 : Int32) < (lcmpW ord (4294967295 : Int64)))) (F_size_w_EMPTY_SET : Fld Z h0 w_EMPTY_SET "java/util/ImmutableCollections$SetN" "size" "I" (.int 0)) (E_w_EMPTY_SET : Exa Z h0 w_EMPTY_SET "java/util/ImmutableCollections$SetN") :
    ∃ (T' : State) (L' : List Loc) (Ls : Array Slot) (vm' : Vm) (k' : Nat), Stand p l e room_1 (s.setVm vm') m args below meth c T' L' 9 68 ∧ Fr n0 L' ∧ s.Since vm' k' ∧ k' ≤ T'.heap.size ∧ ∀ target, Steps p.tables e below (T'.setTop (mkF m 217 Ls [(.int 1)])) target → Steps p.tables e below (T0.setTop (mkF m 133 #[.val (.long q1), .second, .val (.int p2), .val (.int p3), .val (.int p4), .val (.int p5), .val (.long ord), .second, .val (.ref act), .val (.int sc), .val .null, .val (.int ln), .val (.int x0), .val (.int x1), .val (.int x2), .val (.ref o9), .unset] [])) target := by
  obtain ⟨_, _, ⟨T1, L1, k1, n1⟩, -, X1, hSq1, hgq1, ⟨Lc1, hQ1, l1, y1, z1⟩, st1⟩ := callSS X0 hx (y := (⟨"com/example/stanza_filter/stanzafilter/engine/PrivacyItem", "group", "(Ljava/lang/String;Lcom/example/stanza_filter/stanzafilter/engine/Action;J)Lcom/example/stanza_filter/stanzafilter/engine/PrivacyItem;"⟩ : MethodName)) hown (mvT hZ (hw _ (List.mem_of_getElem? (i := 33) rfl))) (mvT hZ (hw _ (List.mem_of_getElem? (i := 34) rfl))) (mvT hZ (hw _ (List.mem_of_getElem? (i := 35) rfl))) (mvT hZ (hw _ (List.mem_of_getElem? (i := 36) rfl))) (by decide) (backOfS (W := 0) (rm5_o1_act_ord l Z a0 hw [] o9 act ord w_EMPTY_SET h0 n0 Z0 E_o9 S_EMPTY_SET hc16 hc25) hZ (hw _ (List.mem_of_getElem? (i := 36) rfl)) (hw _ (List.mem_of_getElem? (i := 35) rfl)) (by decide) (by decide)) (g := (mkF m 139 #[.val (.long q1), .second, .val (.int p2), .val (.int p3), .val (.int p4), .val (.int p5), .val (.long ord), .second, .val (.ref act), .val (.int sc), .val .null, .val (.int ln), .val (.int x0), .val (.int x1), .val (.int x2), .val (.ref o9), .unset] [(.long ord), (.ref act), (.ref o9)])) rfl (by rw [hml]; rfl) (argsL := [(.ref o9), (.ref act), (.long ord)]) (rest := []) (lenOf pd__Ljava_lang_String_Lcom_example_stanza_filter_stanzafilter_engine_Action_J_Lcom_example_stanza_filter_stanzafilter_engine_PrivacyItem_ rfl) rfl (by show 2 * 0 + _ ≤ _; exact Nat.le_of_eq rfl) (hb hby at_139) (fun _ _ => ⟨rfl, e0, (by decide : 4 + 5 ≤ _), (by decide : 10 + 58 ≤ _)⟩)
  dsimp only [Pt.U, Pt.locs, Pt.cells, Pt.slots] at X1 l1 y1 z1 st1 hQ1 hSq1 hgq1
  subst l1 y1 z1
  obtain ⟨b1c1, rfl, N1q, Kq1, s_b1c1, fq1_0, fq1_1, fq1_2, fq1_3, fq1_4, fq1_5, fq1_6⟩ := hQ1
  have N1 := Fr.app N0 N1q
  have hS1 := foldS (T := T0) hS (own_leT e0 hk) hSq1 hgq1
  have hk1 : T1.heap.size ≤ T1.heap.size := Nat.le_refl _
  have hZ1 : Z.Warmed39 (s.setVm T1.vm).vm := State.Warmed39.trans (t := s.setVm _) hZ hSq1.1
  have hown1 : (s.setVm T1.vm).vm.findClass "com/example/stanza_filter/stanzafilter/engine/PrivacyItemGroupPinLaw" = some m.cls := by rw [show (s.setVm T1.vm).vm = T1.vm from rfl, hSq1.1.alike.findClass]; exact hown
  have XW1 : Stand p l e _ (s.setVm T1.vm) m _ below meth c T1 _ _ _ := X1
  have g_b1c1 : n0 ≤ b1c1 := Nat.le_trans Z0 s_b1c1
  have sz_b1c1 : h0.size ≤ b1c1 := s_b1c1
  have K1 : Keep h0 T1.heap [] := (Keep.refl h0 []).trans Kq1 all0
  obtain ⟨cq2, kq2, q2a, q2b, q2c⟩ := isOf hZ1 rfl fq1_0
  obtain ⟨_, _, ⟨T2, L2, k2, n2⟩, -, X2, ⟨Lc2, hQ2, l2, y2, z2⟩, st2⟩ := XW1.virtualBack hx (y := (⟨"com/example/stanza_filter/stanzafilter/engine/PrivacyItem", "order", "()J"⟩ : MethodName)) (z := (⟨"com/example/stanza_filter/stanzafilter/engine/PrivacyItem", "order", "()J"⟩ : MethodName)) hown1 (mvT hZ1 (hw _ (List.mem_of_getElem? (i := 69) rfl))) (mvT hZ1 (hw _ (List.mem_of_getElem? (i := 70) rfl))) (notFace_of_selects (args := #[]) (mvT hZ1 (hw _ (List.mem_of_getElem? (i := 72) rfl)))) (mvT hZ1 (hw _ (List.mem_of_getElem? (i := 72) rfl))) (mvT hZ1 (hw _ (List.mem_of_getElem? (i := 71) rfl))) (by decide) (backOf (W := 0) (rm9_o1 l Z a0 hw [] b1c1 ord T1.heap n0 (Nat.le_trans Z0 K1.1) fq1_5) hZ1 (hw _ (List.mem_of_getElem? (i := 73) rfl)) (hw _ (List.mem_of_getElem? (i := 35) rfl)) (by decide) (by decide)) q2a q2c (g := (mkF m 146 #[.val (.long q1), .second, .val (.int p2), .val (.int p3), .val (.int p4), .val (.int p5), .val (.long ord), .second, .val (.ref act), .val (.int sc), .val .null, .val (.int ln), .val (.int x0), .val (.int x1), .val (.int x2), .val (.ref o9), .val (.ref b1c1)] [(.ref b1c1)])) rfl (by rw [hml]; rfl) (Steps.refl _) (argsL := []) (rest := []) (lenOf pd___J rfl) rfl (by show 2 * 0 + _ ≤ _; exact Nat.le_of_eq rfl) (hb hby at_146) (fun _ _ => ⟨rfl, rfl, (by decide : 9 + 0 ≤ _), (by decide : 68 + 0 ≤ _)⟩)
  dsimp only [Pt.U, Pt.locs, Pt.cells, Pt.slots] at X2 l2 y2 z2 st2 hQ2
  subst l2 y2 z2
  obtain ⟨rfl, N2q, e2⟩ := hQ2
  have N2 := Fr.app N1 N2q
  obtain ⟨cq3, kq3, q3a, q3b, q3c⟩ := isOf hZ1 e2 fq1_0
  obtain ⟨_, _, ⟨T3, L3, k3, n3⟩, -, X3, ⟨Lc3, hQ3, l3, y3, z3⟩, st3⟩ := X2.virtualBack hx (y := (⟨"com/example/stanza_filter/stanzafilter/engine/PrivacyItem", "action", "()Lcom/example/stanza_filter/stanzafilter/engine/Action;"⟩ : MethodName)) (z := (⟨"com/example/stanza_filter/stanzafilter/engine/PrivacyItem", "action", "()Lcom/example/stanza_filter/stanzafilter/engine/Action;"⟩ : MethodName)) hown1 (mvT hZ1 (hw _ (List.mem_of_getElem? (i := 74) rfl))) (mvT hZ1 (hw _ (List.mem_of_getElem? (i := 75) rfl))) (notFace_of_selects (args := #[]) (mvT hZ1 (hw _ (List.mem_of_getElem? (i := 77) rfl)))) (mvT hZ1 (hw _ (List.mem_of_getElem? (i := 77) rfl))) (mvT hZ1 (hw _ (List.mem_of_getElem? (i := 76) rfl))) (by decide) (backOf (W := 0) (rm10_o1 l Z a0 hw [] b1c1 act T1.heap n0 (Nat.le_trans Z0 K1.1) fq1_4) hZ1 (hw _ (List.mem_of_getElem? (i := 78) rfl)) (hw _ (List.mem_of_getElem? (i := 35) rfl)) (by decide) (by decide)) q3a q3c (g := (mkF m 157 #[.val (.long q1), .second, .val (.int p2), .val (.int p3), .val (.int p4), .val (.int p5), .val (.long ord), .second, .val (.ref act), .val (.int sc), .val .null, .val (.int ln), .val (.int x0), .val (.int x1), .val (.int x2), .val (.ref o9), .val (.ref b1c1)] [(.ref b1c1)])) rfl (by rw [hml]; rfl) (Steps.refl _) (argsL := []) (rest := []) (lenOf pd___Lcom_example_stanza_filter_stanzafilter_engine_Action_ rfl) rfl (by show 2 * 0 + _ ≤ _; exact Nat.le_of_eq rfl) (hb hby at_157) (fun _ _ => ⟨rfl, e2, (by decide : 9 + 0 ≤ _), (by decide : 68 + 0 ≤ _)⟩)
  dsimp only [Pt.U, Pt.locs, Pt.cells, Pt.slots] at X3 l3 y3 z3 st3 hQ3
  subst l3 y3 z3
  obtain ⟨rfl, N3q, e3⟩ := hQ3
  have N3 := Fr.app N2 N3q
  obtain ⟨cq4, kq4, q4a, q4b, q4c⟩ := isOf hZ1 e3 fq1_0
  obtain ⟨_, _, ⟨T4, L4, k4, n4⟩, -, X4, ⟨Lc4, hQ4, l4, y4, z4⟩, st4⟩ := X3.virtualBack hx (y := (⟨"com/example/stanza_filter/stanzafilter/engine/PrivacyItem", "jid", "()Lcom/example/stanza_filter/stanzafilter/engine/Jid;"⟩ : MethodName)) (z := (⟨"com/example/stanza_filter/stanzafilter/engine/PrivacyItem", "jid", "()Lcom/example/stanza_filter/stanzafilter/engine/Jid;"⟩ : MethodName)) hown1 (mvT hZ1 (hw _ (List.mem_of_getElem? (i := 79) rfl))) (mvT hZ1 (hw _ (List.mem_of_getElem? (i := 80) rfl))) (notFace_of_selects (args := #[]) (mvT hZ1 (hw _ (List.mem_of_getElem? (i := 82) rfl)))) (mvT hZ1 (hw _ (List.mem_of_getElem? (i := 82) rfl))) (mvT hZ1 (hw _ (List.mem_of_getElem? (i := 81) rfl))) (by decide) (backOf (W := 0) (rm11_o1 l Z a0 hw [] b1c1 T1.heap n0 (Nat.le_trans Z0 K1.1) fq1_1) hZ1 (hw _ (List.mem_of_getElem? (i := 83) rfl)) (hw _ (List.mem_of_getElem? (i := 35) rfl)) (by decide) (by decide)) q4a q4c (g := (mkF m 167 #[.val (.long q1), .second, .val (.int p2), .val (.int p3), .val (.int p4), .val (.int p5), .val (.long ord), .second, .val (.ref act), .val (.int sc), .val .null, .val (.int ln), .val (.int x0), .val (.int x1), .val (.int x2), .val (.ref o9), .val (.ref b1c1)] [(.ref b1c1)])) rfl (by rw [hml]; rfl) (Steps.refl _) (argsL := []) (rest := []) (lenOf pd___Lcom_example_stanza_filter_stanzafilter_engine_Jid_ rfl) rfl (by show 2 * 0 + _ ≤ _; exact Nat.le_of_eq rfl) (hb hby at_167) (fun _ _ => ⟨rfl, e3, (by decide : 9 + 0 ≤ _), (by decide : 68 + 0 ≤ _)⟩)
  dsimp only [Pt.U, Pt.locs, Pt.cells, Pt.slots] at X4 l4 y4 z4 st4 hQ4
  subst l4 y4 z4
  obtain ⟨rfl, N4q, e4⟩ := hQ4
  have N4 := Fr.app N3 N4q
  obtain ⟨cq5, kq5, q5a, q5b, q5c⟩ := isOf hZ1 e4 fq1_0
  obtain ⟨_, _, ⟨T5, L5, k5, n5⟩, -, X5, ⟨Lc5, hQ5, l5, y5, z5⟩, st5⟩ := X4.virtualBack hx (y := (⟨"com/example/stanza_filter/stanzafilter/engine/PrivacyItem", "subscription", "()Lcom/example/stanza_filter/stanzafilter/engine/Subscription;"⟩ : MethodName)) (z := (⟨"com/example/stanza_filter/stanzafilter/engine/PrivacyItem", "subscription", "()Lcom/example/stanza_filter/stanzafilter/engine/Subscription;"⟩ : MethodName)) hown1 (mvT hZ1 (hw _ (List.mem_of_getElem? (i := 84) rfl))) (mvT hZ1 (hw _ (List.mem_of_getElem? (i := 85) rfl))) (notFace_of_selects (args := #[]) (mvT hZ1 (hw _ (List.mem_of_getElem? (i := 87) rfl)))) (mvT hZ1 (hw _ (List.mem_of_getElem? (i := 87) rfl))) (mvT hZ1 (hw _ (List.mem_of_getElem? (i := 86) rfl))) (by decide) (backOf (W := 0) (rm12_o1 l Z a0 hw [] b1c1 T1.heap n0 (Nat.le_trans Z0 K1.1) fq1_3) hZ1 (hw _ (List.mem_of_getElem? (i := 88) rfl)) (hw _ (List.mem_of_getElem? (i := 35) rfl)) (by decide) (by decide)) q5a q5c (g := (mkF m 175 #[.val (.long q1), .second, .val (.int p2), .val (.int p3), .val (.int p4), .val (.int p5), .val (.long ord), .second, .val (.ref act), .val (.int sc), .val .null, .val (.int ln), .val (.int x0), .val (.int x1), .val (.int x2), .val (.ref o9), .val (.ref b1c1)] [(.ref b1c1)])) rfl (by rw [hml]; rfl) (Steps.refl _) (argsL := []) (rest := []) (lenOf pd___Lcom_example_stanza_filter_stanzafilter_engine_Subscription_ rfl) rfl (by show 2 * 0 + _ ≤ _; exact Nat.le_of_eq rfl) (hb hby at_175) (fun _ _ => ⟨rfl, e4, (by decide : 9 + 0 ≤ _), (by decide : 68 + 0 ≤ _)⟩)
  dsimp only [Pt.U, Pt.locs, Pt.cells, Pt.slots] at X5 l5 y5 z5 st5 hQ5
  subst l5 y5 z5
  obtain ⟨rfl, N5q, e5⟩ := hQ5
  have N5 := Fr.app N4 N5q
  obtain ⟨cq6, kq6, q6a, q6b, q6c⟩ := isOf hZ1 e5 fq1_0
  obtain ⟨_, _, ⟨T6, L6, k6, n6⟩, -, X6, ⟨Lc6, hQ6, l6, y6, z6⟩, st6⟩ := X5.virtualBack hx (y := (⟨"com/example/stanza_filter/stanzafilter/engine/PrivacyItem", "group", "()Ljava/lang/String;"⟩ : MethodName)) (z := (⟨"com/example/stanza_filter/stanzafilter/engine/PrivacyItem", "group", "()Ljava/lang/String;"⟩ : MethodName)) hown1 (mvT hZ1 (hw _ (List.mem_of_getElem? (i := 89) rfl))) (mvT hZ1 (hw _ (List.mem_of_getElem? (i := 90) rfl))) (notFace_of_selects (args := #[]) (mvT hZ1 (hw _ (List.mem_of_getElem? (i := 92) rfl)))) (mvT hZ1 (hw _ (List.mem_of_getElem? (i := 92) rfl))) (mvT hZ1 (hw _ (List.mem_of_getElem? (i := 91) rfl))) (by decide) (backOf (W := 1) (rm13_o1 l Z a0 hw [] b1c1 o9 T1.heap n0 (Nat.le_trans Z0 K1.1) fq1_2) hZ1 (hw _ (List.mem_of_getElem? (i := 93) rfl)) (hw _ (List.mem_of_getElem? (i := 35) rfl)) (by decide) (by decide)) q6a q6c (g := (mkF m 185 #[.val (.long q1), .second, .val (.int p2), .val (.int p3), .val (.int p4), .val (.int p5), .val (.long ord), .second, .val (.ref act), .val (.int sc), .val .null, .val (.int ln), .val (.int x0), .val (.int x1), .val (.int x2), .val (.ref o9), .val (.ref b1c1)] [(.ref b1c1), (.ref o9)])) rfl (by rw [hml]; rfl) (Steps.refl _) (argsL := []) (rest := [(.ref o9)]) (lenOf pd___Ljava_lang_String_ rfl) rfl (by show 2 * 0 + _ ≤ _; exact Nat.le_of_eq rfl) (hb hby at_185) (fun _ _ => ⟨rfl, e5, (by decide : 9 + 0 ≤ _), (by decide : 68 + 0 ≤ _)⟩)
  dsimp only [Pt.U, Pt.locs, Pt.cells, Pt.slots] at X6 l6 y6 z6 st6 hQ6
  subst l6 y6 z6
  obtain ⟨rfl, N6q, e6⟩ := hQ6
  have N6 := Fr.app N5 N6q
  obtain ⟨cq7, kq7, q7a, q7b, q7c⟩ := isOf hZ1 e6 (E_o9.keep K1)
  obtain ⟨_, _, ⟨T7, L7, k7, n7⟩, -, X7, ⟨Lc7, hQ7, l7, y7, z7⟩, st7⟩ := X6.virtualBack hx (y := (⟨"java/lang/String", "equals", "(Ljava/lang/Object;)Z"⟩ : MethodName)) (z := (⟨"java/lang/String", "equals", "(Ljava/lang/Object;)Z"⟩ : MethodName)) hown1 (mvT hZ1 (hw _ (List.mem_of_getElem? (i := 94) rfl))) (mvT hZ1 (hw _ (List.mem_of_getElem? (i := 95) rfl))) (notFace_of_selects (args := #[]) (mvT hZ1 (hw _ (List.mem_of_getElem? (i := 97) rfl)))) (mvT hZ1 (hw _ (List.mem_of_getElem? (i := 97) rfl))) (mvT hZ1 (hw _ (List.mem_of_getElem? (i := 96) rfl))) (by decide) (backOf (W := 0) (rm14_o1_o1 l Z a0 hw [] o9 T1.heap n0 (Nat.le_trans Z0 K1.1)) hZ1 (hw _ (List.mem_of_getElem? (i := 98) rfl)) (hw _ (List.mem_of_getElem? (i := 13) rfl)) (by decide) (by decide)) q7a q7c (g := (mkF m 188 #[.val (.long q1), .second, .val (.int p2), .val (.int p3), .val (.int p4), .val (.int p5), .val (.long ord), .second, .val (.ref act), .val (.int sc), .val .null, .val (.int ln), .val (.int x0), .val (.int x1), .val (.int x2), .val (.ref o9), .val (.ref b1c1)] [(.ref o9), (.ref o9)])) rfl (by rw [hml]; rfl) (Steps.refl _) (argsL := [(.ref o9)]) (rest := []) (lenOf pd__Ljava_lang_Object__Z rfl) rfl (by show 2 * 0 + _ ≤ _; exact Nat.le_of_eq rfl) (hb hby at_188) (fun _ _ => ⟨rfl, e6, (by decide : 9 + 0 ≤ _), (by decide : 68 + 0 ≤ _)⟩)
  dsimp only [Pt.U, Pt.locs, Pt.cells, Pt.slots] at X7 l7 y7 z7 st7 hQ7
  subst l7 y7 z7
  obtain ⟨rfl, N7q, e7⟩ := hQ7
  have N7 := Fr.app N6 N7q
  obtain ⟨cq8, kq8, q8a, q8b, q8c⟩ := isOf hZ1 e7 fq1_0
  obtain ⟨_, _, ⟨T8, L8, k8, n8⟩, -, X8, ⟨Lc8, hQ8, l8, y8, z8⟩, st8⟩ := X7.virtualBack hx (y := (⟨"com/example/stanza_filter/stanzafilter/engine/PrivacyItem", "covers", "(Lcom/example/stanza_filter/stanzafilter/engine/Scope;)Z"⟩ : MethodName)) (z := (⟨"com/example/stanza_filter/stanzafilter/engine/PrivacyItem", "covers", "(Lcom/example/stanza_filter/stanzafilter/engine/Scope;)Z"⟩ : MethodName)) hown1 (mvT hZ1 (hw _ (List.mem_of_getElem? (i := 99) rfl))) (mvT hZ1 (hw _ (List.mem_of_getElem? (i := 100) rfl))) (notFace_of_selects (args := #[]) (mvT hZ1 (hw _ (List.mem_of_getElem? (i := 102) rfl)))) (mvT hZ1 (hw _ (List.mem_of_getElem? (i := 102) rfl))) (mvT hZ1 (hw _ (List.mem_of_getElem? (i := 101) rfl))) (by decide) (backOf (W := 0) (rm15_o1_null l Z a0 hw [] b1c1 w_EMPTY_SET T1.heap n0 (Nat.le_trans Z0 K1.1) fq1_6 (F_size_w_EMPTY_SET.keep K1 nin0) (E_w_EMPTY_SET.keep K1)) hZ1 (hw _ (List.mem_of_getElem? (i := 103) rfl)) (hw _ (List.mem_of_getElem? (i := 35) rfl)) (by decide) (by decide)) q8a q8c (g := (mkF m 198 #[.val (.long q1), .second, .val (.int p2), .val (.int p3), .val (.int p4), .val (.int p5), .val (.long ord), .second, .val (.ref act), .val (.int sc), .val .null, .val (.int ln), .val (.int x0), .val (.int x1), .val (.int x2), .val (.ref o9), .val (.ref b1c1)] [.null, (.ref b1c1)])) rfl (by rw [hml]; rfl) (Steps.refl _) (argsL := [.null]) (rest := []) (lenOf pd__Lcom_example_stanza_filter_stanzafilter_engine_Scope__Z rfl) rfl (by show 2 * 0 + _ ≤ _; exact Nat.le_of_eq rfl) (hb hby at_198) (fun _ _ => ⟨rfl, e7, (by decide : 9 + 0 ≤ _), (by decide : 68 + 0 ≤ _)⟩)
  dsimp only [Pt.U, Pt.locs, Pt.cells, Pt.slots] at X8 l8 y8 z8 st8 hQ8
  subst l8 y8 z8
  obtain ⟨rfl, N8q, e8⟩ := hQ8
  have N8 := Fr.app N7 N8q
  obtain ⟨cq9, kq9, q9a, q9b, q9c⟩ := isOf hZ1 e8 fq1_0
  obtain ⟨_, _, ⟨T9, L9, k9, n9⟩, -, X9, ⟨Lc9, hQ9, l9, y9, z9⟩, st9⟩ := X8.virtualBack hx (y := (⟨"com/example/stanza_filter/stanzafilter/engine/PrivacyItem", "isBlocklistEntry", "()Z"⟩ : MethodName)) (z := (⟨"com/example/stanza_filter/stanzafilter/engine/PrivacyItem", "isBlocklistEntry", "()Z"⟩ : MethodName)) hown1 (mvT hZ1 (hw _ (List.mem_of_getElem? (i := 116) rfl))) (mvT hZ1 (hw _ (List.mem_of_getElem? (i := 117) rfl))) (notFace_of_selects (args := #[]) (mvT hZ1 (hw _ (List.mem_of_getElem? (i := 119) rfl)))) (mvT hZ1 (hw _ (List.mem_of_getElem? (i := 119) rfl))) (mvT hZ1 (hw _ (List.mem_of_getElem? (i := 118) rfl))) (by decide) (backOf (W := 0) (rm17_o1 l Z a0 hw [] b1c1 T1.heap n0 (Nat.le_trans Z0 K1.1) fq1_1) hZ1 (hw _ (List.mem_of_getElem? (i := 120) rfl)) (hw _ (List.mem_of_getElem? (i := 35) rfl)) (by decide) (by decide)) q9a q9c (g := (mkF m 206 #[.val (.long q1), .second, .val (.int p2), .val (.int p3), .val (.int p4), .val (.int p5), .val (.long ord), .second, .val (.ref act), .val (.int sc), .val .null, .val (.int ln), .val (.int x0), .val (.int x1), .val (.int x2), .val (.ref o9), .val (.ref b1c1)] [(.ref b1c1)])) rfl (by rw [hml]; rfl) (Steps.refl _) (argsL := []) (rest := []) (lenOf pd___Z rfl) rfl (by show 2 * 0 + _ ≤ _; exact Nat.le_of_eq rfl) (hb hby at_206) (fun _ _ => ⟨rfl, e8, (by decide : 9 + 0 ≤ _), (by decide : 68 + 0 ≤ _)⟩)
  dsimp only [Pt.U, Pt.locs, Pt.cells, Pt.slots] at X9 l9 y9 z9 st9 hQ9
  subst l9 y9 z9
  obtain ⟨rfl, N9q, e9⟩ := hQ9
  have N9 := Fr.app N8 N9q
  refine ⟨T9, _, #[.val (.long q1), .second, .val (.int p2), .val (.int p3), .val (.int p4), .val (.int p5), .val (.long ord), .second, .val (.ref act), .val (.int sc), .val .null, .val (.int ln), .val (.int x0), .val (.int x1), .val (.int x2), .val (.ref o9), .val (.ref b1c1)], _, _, X9, N9, hS1, own_leT e9 hk1, fun target kt => ?_⟩
  show Steps p.tables e below (T0.setTop (mkF m 133 #[.val (.long q1), .second, .val (.int p2), .val (.int p3), .val (.int p4), .val (.int p5), .val (.long ord), .second, .val (.ref act), .val (.int sc), .val .null, .val (.int ln), .val (.int x0), .val (.int x1), .val (.int x2), .val (.ref o9), .unset] [])) _
  refine XS.aload X0.here hx rfl (hb hby at_133) rfl rfl ?_
  show Steps p.tables e below (T0.setTop (mkF m 135 #[.val (.long q1), .second, .val (.int p2), .val (.int p3), .val (.int p4), .val (.int p5), .val (.long ord), .second, .val (.ref act), .val (.int sc), .val .null, .val (.int ln), .val (.int x0), .val (.int x1), .val (.int x2), .val (.ref o9), .unset] [(.ref o9)])) _
  refine XS.aload X0.here hx rfl (hb hby at_135) rfl rfl ?_
  show Steps p.tables e below (T0.setTop (mkF m 137 #[.val (.long q1), .second, .val (.int p2), .val (.int p3), .val (.int p4), .val (.int p5), .val (.long ord), .second, .val (.ref act), .val (.int sc), .val .null, .val (.int ln), .val (.int x0), .val (.int x1), .val (.int x2), .val (.ref o9), .unset] [(.ref act), (.ref o9)])) _
  refine XS.lload X0.here hx rfl (hb hby at_137) rfl ?_
  show Steps p.tables e below (T0.setTop (mkF m 139 #[.val (.long q1), .second, .val (.int p2), .val (.int p3), .val (.int p4), .val (.int p5), .val (.long ord), .second, .val (.ref act), .val (.int sc), .val .null, .val (.int ln), .val (.int x0), .val (.int x1), .val (.int x2), .val (.ref o9), .unset] [(.long ord), (.ref act), (.ref o9)])) _
  refine st1.trans ?_
  show Steps p.tables e below (T1.setTop (mkF m 142 #[.val (.long q1), .second, .val (.int p2), .val (.int p3), .val (.int p4), .val (.int p5), .val (.long ord), .second, .val (.ref act), .val (.int sc), .val .null, .val (.int ln), .val (.int x0), .val (.int x1), .val (.int x2), .val (.ref o9), .unset] [(.ref b1c1)])) _
  refine XS.astore XW1.here hx rfl (hb hby at_142) rfl rfl (l' := #[.val (.long q1), .second, .val (.int p2), .val (.int p3), .val (.int p4), .val (.int p5), .val (.long ord), .second, .val (.ref act), .val (.int sc), .val .null, .val (.int ln), .val (.int x0), .val (.int x1), .val (.int x2), .val (.ref o9), .val (.ref b1c1)]) rfl ?_
  show Steps p.tables e below (T1.setTop (mkF m 144 #[.val (.long q1), .second, .val (.int p2), .val (.int p3), .val (.int p4), .val (.int p5), .val (.long ord), .second, .val (.ref act), .val (.int sc), .val .null, .val (.int ln), .val (.int x0), .val (.int x1), .val (.int x2), .val (.ref o9), .val (.ref b1c1)] [])) _
  refine XS.aload XW1.here hx rfl (hb hby at_144) rfl rfl ?_
  show Steps p.tables e below (T1.setTop (mkF m 146 #[.val (.long q1), .second, .val (.int p2), .val (.int p3), .val (.int p4), .val (.int p5), .val (.long ord), .second, .val (.ref act), .val (.int sc), .val .null, .val (.int ln), .val (.int x0), .val (.int x1), .val (.int x2), .val (.ref o9), .val (.ref b1c1)] [(.ref b1c1)])) _
  refine st2.trans ?_
  show Steps p.tables e below (T2.setTop (mkF m 149 #[.val (.long q1), .second, .val (.int p2), .val (.int p3), .val (.int p4), .val (.int p5), .val (.long ord), .second, .val (.ref act), .val (.int sc), .val .null, .val (.int ln), .val (.int x0), .val (.int x1), .val (.int x2), .val (.ref o9), .val (.ref b1c1)] [(.long ord)])) _
  refine XS.lload X2.here hx rfl (hb hby at_149) rfl ?_
  show Steps p.tables e below (T2.setTop (mkF m 151 #[.val (.long q1), .second, .val (.int p2), .val (.int p3), .val (.int p4), .val (.int p5), .val (.long ord), .second, .val (.ref act), .val (.int sc), .val .null, .val (.int ln), .val (.int x0), .val (.int x1), .val (.int x2), .val (.ref o9), .val (.ref b1c1)] [(.long ord), (.long ord)])) _
  refine XS.lcmp X2.here hx rfl (hb hby at_151) rfl ?_
  show Steps p.tables e below (T2.setTop (mkF m 152 #[.val (.long q1), .second, .val (.int p2), .val (.int p3), .val (.int p4), .val (.int p5), .val (.long ord), .second, .val (.ref act), .val (.int sc), .val .null, .val (.int ln), .val (.int x0), .val (.int x1), .val (.int x2), .val (.ref o9), .val (.ref b1c1)] [(.int (lcmpW ord ord))])) _
  rw [own_lcmp0]
  show Steps p.tables e below (T2.setTop (mkF m 152 #[.val (.long q1), .second, .val (.int p2), .val (.int p3), .val (.int p4), .val (.int p5), .val (.long ord), .second, .val (.ref act), .val (.int sc), .val .null, .val (.int ln), .val (.int x0), .val (.int x1), .val (.int x2), .val (.ref o9), .val (.ref b1c1)] [(.int 0)])) _
  refine XS.ifNo X2.here hx rfl (hb hby at_152) rfl ((if0 _ _).trans (teq (by decide : (0 : Int32) = (0 : Int32))).2) ?_
  show Steps p.tables e below (T2.setTop (mkF m 155 #[.val (.long q1), .second, .val (.int p2), .val (.int p3), .val (.int p4), .val (.int p5), .val (.long ord), .second, .val (.ref act), .val (.int sc), .val .null, .val (.int ln), .val (.int x0), .val (.int x1), .val (.int x2), .val (.ref o9), .val (.ref b1c1)] [])) _
  refine XS.aload X2.here hx rfl (hb hby at_155) rfl rfl ?_
  show Steps p.tables e below (T2.setTop (mkF m 157 #[.val (.long q1), .second, .val (.int p2), .val (.int p3), .val (.int p4), .val (.int p5), .val (.long ord), .second, .val (.ref act), .val (.int sc), .val .null, .val (.int ln), .val (.int x0), .val (.int x1), .val (.int x2), .val (.ref o9), .val (.ref b1c1)] [(.ref b1c1)])) _
  refine st3.trans ?_
  show Steps p.tables e below (T3.setTop (mkF m 160 #[.val (.long q1), .second, .val (.int p2), .val (.int p3), .val (.int p4), .val (.int p5), .val (.long ord), .second, .val (.ref act), .val (.int sc), .val .null, .val (.int ln), .val (.int x0), .val (.int x1), .val (.int x2), .val (.ref o9), .val (.ref b1c1)] [(.ref act)])) _
  refine XS.aload X3.here hx rfl (hb hby at_160) rfl rfl ?_
  show Steps p.tables e below (T3.setTop (mkF m 162 #[.val (.long q1), .second, .val (.int p2), .val (.int p3), .val (.int p4), .val (.int p5), .val (.long ord), .second, .val (.ref act), .val (.int sc), .val .null, .val (.int ln), .val (.int x0), .val (.int x1), .val (.int x2), .val (.ref o9), .val (.ref b1c1)] [(.ref act), (.ref act)])) _
  refine Jvm.RoadKit.acmp (g := (mkF m 162 #[.val (.long q1), .second, .val (.int p2), .val (.int p3), .val (.int p4), .val (.int p5), .val (.long ord), .second, .val (.ref act), .val (.int sc), .val .null, .val (.int ln), .val (.int x0), .val (.int x1), .val (.int x2), .val (.ref o9), .val (.ref b1c1)] [(.ref act), (.ref act)])) X3 hx rfl rfl rfl (pc0 := 162) (pc' := 165) (same := true) rfl (hb hby at_162) rfl (decide_eq_true rfl) (by decide) (by decide) ?_
  show Steps p.tables e below (T3.setTop (mkF m 165 #[.val (.long q1), .second, .val (.int p2), .val (.int p3), .val (.int p4), .val (.int p5), .val (.long ord), .second, .val (.ref act), .val (.int sc), .val .null, .val (.int ln), .val (.int x0), .val (.int x1), .val (.int x2), .val (.ref o9), .val (.ref b1c1)] [])) _
  refine XS.aload X3.here hx rfl (hb hby at_165) rfl rfl ?_
  show Steps p.tables e below (T3.setTop (mkF m 167 #[.val (.long q1), .second, .val (.int p2), .val (.int p3), .val (.int p4), .val (.int p5), .val (.long ord), .second, .val (.ref act), .val (.int sc), .val .null, .val (.int ln), .val (.int x0), .val (.int x1), .val (.int x2), .val (.ref o9), .val (.ref b1c1)] [(.ref b1c1)])) _
  refine st4.trans ?_
  show Steps p.tables e below (T4.setTop (mkF m 170 #[.val (.long q1), .second, .val (.int p2), .val (.int p3), .val (.int p4), .val (.int p5), .val (.long ord), .second, .val (.ref act), .val (.int sc), .val .null, .val (.int ln), .val (.int x0), .val (.int x1), .val (.int x2), .val (.ref o9), .val (.ref b1c1)] [.null])) _
  refine XS.ifnonnullNo X4.here hx rfl (hb hby at_170) rfl ?_
  show Steps p.tables e below (T4.setTop (mkF m 173 #[.val (.long q1), .second, .val (.int p2), .val (.int p3), .val (.int p4), .val (.int p5), .val (.long ord), .second, .val (.ref act), .val (.int sc), .val .null, .val (.int ln), .val (.int x0), .val (.int x1), .val (.int x2), .val (.ref o9), .val (.ref b1c1)] [])) _
  refine XS.aload X4.here hx rfl (hb hby at_173) rfl rfl ?_
  show Steps p.tables e below (T4.setTop (mkF m 175 #[.val (.long q1), .second, .val (.int p2), .val (.int p3), .val (.int p4), .val (.int p5), .val (.long ord), .second, .val (.ref act), .val (.int sc), .val .null, .val (.int ln), .val (.int x0), .val (.int x1), .val (.int x2), .val (.ref o9), .val (.ref b1c1)] [(.ref b1c1)])) _
  refine st5.trans ?_
  show Steps p.tables e below (T5.setTop (mkF m 178 #[.val (.long q1), .second, .val (.int p2), .val (.int p3), .val (.int p4), .val (.int p5), .val (.long ord), .second, .val (.ref act), .val (.int sc), .val .null, .val (.int ln), .val (.int x0), .val (.int x1), .val (.int x2), .val (.ref o9), .val (.ref b1c1)] [.null])) _
  refine XS.ifnonnullNo X5.here hx rfl (hb hby at_178) rfl ?_
  show Steps p.tables e below (T5.setTop (mkF m 181 #[.val (.long q1), .second, .val (.int p2), .val (.int p3), .val (.int p4), .val (.int p5), .val (.long ord), .second, .val (.ref act), .val (.int sc), .val .null, .val (.int ln), .val (.int x0), .val (.int x1), .val (.int x2), .val (.ref o9), .val (.ref b1c1)] [])) _
  refine XS.aload X5.here hx rfl (hb hby at_181) rfl rfl ?_
  show Steps p.tables e below (T5.setTop (mkF m 183 #[.val (.long q1), .second, .val (.int p2), .val (.int p3), .val (.int p4), .val (.int p5), .val (.long ord), .second, .val (.ref act), .val (.int sc), .val .null, .val (.int ln), .val (.int x0), .val (.int x1), .val (.int x2), .val (.ref o9), .val (.ref b1c1)] [(.ref o9)])) _
  refine XS.aload X5.here hx rfl (hb hby at_183) rfl rfl ?_
  show Steps p.tables e below (T5.setTop (mkF m 185 #[.val (.long q1), .second, .val (.int p2), .val (.int p3), .val (.int p4), .val (.int p5), .val (.long ord), .second, .val (.ref act), .val (.int sc), .val .null, .val (.int ln), .val (.int x0), .val (.int x1), .val (.int x2), .val (.ref o9), .val (.ref b1c1)] [(.ref b1c1), (.ref o9)])) _
  refine st6.trans ?_
  show Steps p.tables e below (T6.setTop (mkF m 188 #[.val (.long q1), .second, .val (.int p2), .val (.int p3), .val (.int p4), .val (.int p5), .val (.long ord), .second, .val (.ref act), .val (.int sc), .val .null, .val (.int ln), .val (.int x0), .val (.int x1), .val (.int x2), .val (.ref o9), .val (.ref b1c1)] [(.ref o9), (.ref o9)])) _
  refine st7.trans ?_
  show Steps p.tables e below (T7.setTop (mkF m 191 #[.val (.long q1), .second, .val (.int p2), .val (.int p3), .val (.int p4), .val (.int p5), .val (.long ord), .second, .val (.ref act), .val (.int sc), .val .null, .val (.int ln), .val (.int x0), .val (.int x1), .val (.int x2), .val (.ref o9), .val (.ref b1c1)] [(.int 1)])) _
  refine XS.ifNo X7.here hx rfl (hb hby at_191) rfl ((if0 _ _).trans (feq (by decide : ¬ ((1 : Int32) = (0 : Int32)))).1) ?_
  show Steps p.tables e below (T7.setTop (mkF m 194 #[.val (.long q1), .second, .val (.int p2), .val (.int p3), .val (.int p4), .val (.int p5), .val (.long ord), .second, .val (.ref act), .val (.int sc), .val .null, .val (.int ln), .val (.int x0), .val (.int x1), .val (.int x2), .val (.ref o9), .val (.ref b1c1)] [])) _
  refine XS.aload X7.here hx rfl (hb hby at_194) rfl rfl ?_
  show Steps p.tables e below (T7.setTop (mkF m 196 #[.val (.long q1), .second, .val (.int p2), .val (.int p3), .val (.int p4), .val (.int p5), .val (.long ord), .second, .val (.ref act), .val (.int sc), .val .null, .val (.int ln), .val (.int x0), .val (.int x1), .val (.int x2), .val (.ref o9), .val (.ref b1c1)] [(.ref b1c1)])) _
  refine XS.aload X7.here hx rfl (hb hby at_196) rfl rfl ?_
  show Steps p.tables e below (T7.setTop (mkF m 198 #[.val (.long q1), .second, .val (.int p2), .val (.int p3), .val (.int p4), .val (.int p5), .val (.long ord), .second, .val (.ref act), .val (.int sc), .val .null, .val (.int ln), .val (.int x0), .val (.int x1), .val (.int x2), .val (.ref o9), .val (.ref b1c1)] [.null, (.ref b1c1)])) _
  refine st8.trans ?_
  show Steps p.tables e below (T8.setTop (mkF m 201 #[.val (.long q1), .second, .val (.int p2), .val (.int p3), .val (.int p4), .val (.int p5), .val (.long ord), .second, .val (.ref act), .val (.int sc), .val .null, .val (.int ln), .val (.int x0), .val (.int x1), .val (.int x2), .val (.ref o9), .val (.ref b1c1)] [(.int 1)])) _
  refine XS.ifNo X8.here hx rfl (hb hby at_201) rfl ((if0 _ _).trans (feq (by decide : ¬ ((1 : Int32) = (0 : Int32)))).1) ?_
  show Steps p.tables e below (T8.setTop (mkF m 204 #[.val (.long q1), .second, .val (.int p2), .val (.int p3), .val (.int p4), .val (.int p5), .val (.long ord), .second, .val (.ref act), .val (.int sc), .val .null, .val (.int ln), .val (.int x0), .val (.int x1), .val (.int x2), .val (.ref o9), .val (.ref b1c1)] [])) _
  refine XS.aload X8.here hx rfl (hb hby at_204) rfl rfl ?_
  show Steps p.tables e below (T8.setTop (mkF m 206 #[.val (.long q1), .second, .val (.int p2), .val (.int p3), .val (.int p4), .val (.int p5), .val (.long ord), .second, .val (.ref act), .val (.int sc), .val .null, .val (.int ln), .val (.int x0), .val (.int x1), .val (.int x2), .val (.ref o9), .val (.ref b1c1)] [(.ref b1c1)])) _
  refine st9.trans ?_
  show Steps p.tables e below (T9.setTop (mkF m 209 #[.val (.long q1), .second, .val (.int p2), .val (.int p3), .val (.int p4), .val (.int p5), .val (.long ord), .second, .val (.ref act), .val (.int sc), .val .null, .val (.int ln), .val (.int x0), .val (.int x1), .val (.int x2), .val (.ref o9), .val (.ref b1c1)] [(.int 0)])) _
  refine XS.ifNo X9.here hx rfl (hb hby at_209) rfl ((if0 _ _).trans (teq (by decide : (0 : Int32) = (0 : Int32))).2) ?_
  show Steps p.tables e below (T9.setTop (mkF m 212 #[.val (.long q1), .second, .val (.int p2), .val (.int p3), .val (.int p4), .val (.int p5), .val (.long ord), .second, .val (.ref act), .val (.int sc), .val .null, .val (.int ln), .val (.int x0), .val (.int x1), .val (.int x2), .val (.ref o9), .val (.ref b1c1)] [])) _
  refine XS.iconst X9.here hx rfl (hb hby at_212) ?_
  show Steps p.tables e below (T9.setTop (mkF m 213 #[.val (.long q1), .second, .val (.int p2), .val (.int p3), .val (.int p4), .val (.int p5), .val (.long ord), .second, .val (.ref act), .val (.int sc), .val .null, .val (.int ln), .val (.int x0), .val (.int x1), .val (.int x2), .val (.ref o9), .val (.ref b1c1)] [(.int 1)])) _
  refine XS.goto X9.here hx rfl (pc0 := 213) (pc' := 217) rfl (hb hby at_213) (by decide) (by decide) ?_
  show Steps p.tables e below (T9.setTop (mkF m 217 #[.val (.long q1), .second, .val (.int p2), .val (.int p3), .val (.int p4), .val (.int p5), .val (.long ord), .second, .val (.ref act), .val (.int sc), .val .null, .val (.int ln), .val (.int x0), .val (.int x1), .val (.int x2), .val (.ref o9), .val (.ref b1c1)] [(.int 1)])) _
  exact kt
def Q15_o1_scr (Z : State) (o1 : Addr) (scr : Addr) (w_EMPTY_SET : Addr) (h0 : Heap) (n0 : Nat) (v : Option Value) (h : Heap) (L : List Loc) : Prop := v = some (.int 1) ∧ Fr n0 L ∧ h = h0
set_option maxRecDepth 65536 in
set_option maxHeartbeats 40000000 in
theorem rm15_o1_scr (l : Launch) (Z : State) (a0 : Array Value) (hw : ∀ d ∈ tables_1, d.before a0 Z = true) (ws : List Jvm.Cond) (o1 : Addr) (scr : Addr) (w_EMPTY_SET : Addr) (h0 : Heap) (n0 : Nat) (Z0 : n0 ≤ h0.size) (F_scopes_o1 : Fld Z h0 o1 "com/example/stanza_filter/stanzafilter/engine/PrivacyItem" "scopes" "Ljava/util/Set;" (.ref w_EMPTY_SET)) (F_size_w_EMPTY_SET : Fld Z h0 w_EMPTY_SET "java/util/ImmutableCollections$SetN" "size" "I" (.int 0)) (E_w_EMPTY_SET : Exa Z h0 w_EMPTY_SET "java/util/ImmutableCollections$SetN") :
    MetFree l (⟨"com/example/stanza_filter/stanzafilter/engine/PrivacyItem", "covers", "(Lcom/example/stanza_filter/stanzafilter/engine/Scope;)Z"⟩ : MethodName) (head1 (Jvm.Cond.code (⟨"com/example/stanza_filter/stanzafilter/engine/PrivacyItem", "covers", "(Lcom/example/stanza_filter/stanzafilter/engine/Scope;)Z"⟩ : MethodName) prog_9_method_15_code 2 (some .boolean) :: ws) ({ frames := 1, cells := 0, slots := 0, locals := 12 } : Room)) (fun a U => a = #[(.ref o1), (.ref scr)] ∧ Z.Warmed39 U.vm ∧ U.heap = h0) (fun _ _ _ _ _ => True) (fun _ U o U' => ∃ v L, o = .returned v ∧ Q15_o1_scr Z o1 scr w_EMPTY_SET h0 n0 v U'.heap L ∧ FrameEnd U o U' L ({ frames := 1, cells := 0, slots := 0, locals := 12 } : Room).cells ({ frames := 1, cells := 0, slots := 0, locals := 12 } : Room).slots) := by
  refine MetFree.of_bodySF (plainFor_of_name pn_15) hisR ?_
  intro p e s m args below meth c s₁ Bd hml0 hP hK
  obtain ⟨rfl, hZ, hh⟩ := hP
  have hx := Bd.exec
  have hby := Bd.bytes
  have hml : c.maxLocals = 2 := hml0
  have hown : s.vm.findClass "com/example/stanza_filter/stanzafilter/engine/PrivacyItem" = some m.cls := findClass_of_methodNamed Bd.named
  have hnm := (name_of_methodNamed Bd.named Bd.method).1
  have X0 : Stand p l e ({ frames := 1, cells := 0, slots := 0, locals := 12 } : Room) s m #[(.ref o1), (.ref scr)] below meth c s₁ [] 0 0 := Stand.of_body Bd
  have e0 : s₁.heap = h0 := by rw [← hh, Bd.state]; rfl
  have N0 := Fr.nil n0
  have pre0 : ∀ t, Steps p.tables e below (s₁.setTop (mkF m 0 #[.val (.ref o1), .val (.ref scr)] [])) t → Steps p.tables e below (s₁.setTop (entryFrame m #[(.ref o1), (.ref scr)] 2)) t := fun t k => castTop (by first | (simp [entryFrame, mkF, argsToLocals, Value.category]; done) | rfl) k
  obtain ⟨T1, X1, e1, st1⟩ := getF X0 hx hZ hown (host := "") (Or.inl (hw _ (List.mem_of_getElem? (i := 67) rfl))) Via.refl e0 F_scopes_o1 (g := (mkF m 1 #[.val (.ref o1), .val (.ref scr)] [(.ref o1)])) rfl rfl (hb hby d15_1)
  obtain ⟨cq2, kq2, q2a, q2b, q2c⟩ := isOf hZ e1 E_w_EMPTY_SET
  obtain ⟨_, _, ⟨T2, L2, k2, n2⟩, -, X2, ⟨Lc2, hQ2, l2, y2, z2⟩, st2⟩ := X1.interfaceBack hx (xi := (⟨"java/util/Set", "isEmpty", "()Z"⟩ : MethodName)) (y := (⟨"java/util/ImmutableCollections$SetN", "isEmpty", "()Z"⟩ : MethodName)) hown (mvT hZ (hw _ (List.mem_of_getElem? (i := 104) rfl))) (mvT hZ (hw _ (List.mem_of_getElem? (i := 105) rfl))) (mvT hZ (hw _ (List.mem_of_getElem? (i := 106) rfl))) (mvT hZ (hw _ (List.mem_of_getElem? (i := 107) rfl))) (mvT hZ (hw _ (List.mem_of_getElem? (i := 108) rfl))) (mvT hZ (hw _ (List.mem_of_getElem? (i := 109) rfl))) (mvT hZ (hw _ (List.mem_of_getElem? (i := 110) rfl))) (mvT hZ (hw _ (List.mem_of_getElem? (i := 111) rfl))) (by decide) (backOf (W := 0) (rm16_w_EMPTY_SET l Z a0 hw [] w_EMPTY_SET h0 n0 Z0 F_size_w_EMPTY_SET) hZ (hw _ (List.mem_of_getElem? (i := 113) rfl)) (hw _ (List.mem_of_getElem? (i := 112) rfl)) (by decide) (by decide)) q2a q2b q2c (g := (mkF m 4 #[.val (.ref o1), .val (.ref scr)] [(.ref w_EMPTY_SET)])) rfl (by rw [hml]; rfl) (Steps.refl _) (argsL := []) (rest := []) (lenOf pd___Z rfl) rfl (by show 2 * 0 + _ ≤ _; exact Nat.le_of_eq rfl) (hb hby d15_4) (fun _ _ => ⟨rfl, e1, (by decide : 0 + 0 ≤ _), (by decide : 0 + 0 ≤ _)⟩)
  dsimp only [Pt.U, Pt.locs, Pt.cells, Pt.slots] at X2 l2 y2 z2 st2 hQ2
  subst l2 y2 z2
  obtain ⟨rfl, N2q, e2⟩ := hQ2
  have N2 := Fr.app N0 N2q
  obtain ⟨fs, hr, hrun, hended, hW, hsame⟩ := X2.leave (v := some (.int 1)) (fun h => by rw [Bd.returns] at h; cases h)
  refine ⟨_, _, pre0 _ ?_, hrun, hended, _, _, rfl, ?_, ⟨_, rfl⟩, hW, hsame.mono (by decide) (by decide)⟩
  · show Steps p.tables e below (s₁.setTop (mkF m 0 #[.val (.ref o1), .val (.ref scr)] [])) _
    refine XS.aloadN X0.here hx rfl (hb hby d15_0) rfl rfl ?_
    show Steps p.tables e below (s₁.setTop (mkF m 1 #[.val (.ref o1), .val (.ref scr)] [(.ref o1)])) _
    refine st1 _ ?_
    show Steps p.tables e below (T1.setTop (mkF m 4 #[.val (.ref o1), .val (.ref scr)] [(.ref w_EMPTY_SET)])) _
    refine st2.trans ?_
    show Steps p.tables e below (T2.setTop (mkF m 9 #[.val (.ref o1), .val (.ref scr)] [(.int 1)])) _
    refine XS.ifYes X2.here hx rfl (pc0 := 9) (pc' := 25) rfl (hb hby d15_9) rfl ((if0 _ _).trans (feq (by decide : ¬ ((1 : Int32) = (0 : Int32)))).2) (by decide) (by decide) ?_
    show Steps p.tables e below (T2.setTop (mkF m 25 #[.val (.ref o1), .val (.ref scr)] [])) _
    refine XS.iconst X2.here hx rfl (hb hby d15_25) ?_
    show Steps p.tables e below (T2.setTop (mkF m 26 #[.val (.ref o1), .val (.ref scr)] [(.int 1)])) _
    refine XS.goto X2.here hx rfl (pc0 := 26) (pc' := 30) rfl (hb hby d15_26) (by decide) (by decide) ?_
    show Steps p.tables e below (T2.setTop (mkF m 30 #[.val (.ref o1), .val (.ref scr)] [(.int 1)])) _
    exact retN X2 hx (t := .boolean) Bd.returns (by simp) (hb hby d15_30) hr
  · show Q15_o1_scr Z o1 scr w_EMPTY_SET h0 n0 _ T2.heap _
    rw [e2]
    exact ⟨rfl, N2, rfl⟩
set_option maxRecDepth 65536 in
set_option maxHeartbeats 40000000 in
theorem pc0_D1 {p : Program} {l : Launch} {e : Env} {s : State} {m : MethodId} {args : Array Value} {below : List Frame} {meth : Method} {c : Code} {T0 : State} {locs : List Loc} {Z : State} {a0 : Array Value} {h0 : Heap} {n0 : Nat} {vm0 : Vm} {k0 : Nat} (q1 : Int64) (p2 : Int32) (p3 : Int32) (p4 : Int32) (p5 : Int32) (ord : Int64) (act : Addr) (sc : Int32) (scr : Addr) (ln : Int32) (x0 : Int32) (x1 : Int32) (x2 : Int32) (o9 : Addr) (w_EMPTY_SET : Addr)
    (X0 : Stand p l e room_1 (s.setVm vm0) m args below meth c T0 locs 4 10) (hx : p.tables.exec = Jvm.exec) (hZ : Z.Warmed39 (s.setVm vm0).vm) (hw : ∀ d ∈ tables_1, d.before a0 Z = true) (hby : c.code = code) (hml : c.maxLocals = 17) (hown : (s.setVm vm0).vm.findClass "com/example/stanza_filter/stanzafilter/engine/PrivacyItemGroupPinLaw" = some m.cls) (e0 : T0.heap = h0) (Z0 : n0 ≤ h0.size) (N0 : Fr n0 locs) (hS : s.Since vm0 k0) (hk : k0 ≤ h0.size) (E_o9 : Exa Z h0 o9 "java/lang/String") (S_EMPTY_SET : Sta Z h0 "java/util/ImmutableCollections" "EMPTY_SET" "Ljava/util/ImmutableCollections$SetN;" (.ref w_EMPTY_SET)) (hc16 : ¬ ((lcmpW ord (0 : Int64)) < (0 : Int32))) (hc25 : ¬ ((0 : Int32) < (lcmpW ord (4294967295 : Int64)))) (F_size_w_EMPTY_SET : Fld Z h0 w_EMPTY_SET "java/util/ImmutableCollections$SetN" "size" "I" (.int 0)) (E_w_EMPTY_SET : Exa Z h0 w_EMPTY_SET "java/util/ImmutableCollections$SetN") :
    ∃ (T' : State) (L' : List Loc) (Ls : Array Slot) (vm' : Vm) (k' : Nat), Stand p l e room_1 (s.setVm vm') m args below meth c T' L' 9 68 ∧ Fr n0 L' ∧ s.Since vm' k' ∧ k' ≤ T'.heap.size ∧ ∀ target, Steps p.tables e below (T'.setTop (mkF m 217 Ls [(.int 1)])) target → Steps p.tables e below (T0.setTop (mkF m 133 #[.val (.long q1), .second, .val (.int p2), .val (.int p3), .val (.int p4), .val (.int p5), .val (.long ord), .second, .val (.ref act), .val (.int sc), .val (.ref scr), .val (.int ln), .val (.int x0), .val (.int x1), .val (.int x2), .val (.ref o9), .unset] [])) target := by
  obtain ⟨_, _, ⟨T1, L1, k1, n1⟩, -, X1, hSq1, hgq1, ⟨Lc1, hQ1, l1, y1, z1⟩, st1⟩ := callSS X0 hx (y := (⟨"com/example/stanza_filter/stanzafilter/engine/PrivacyItem", "group", "(Ljava/lang/String;Lcom/example/stanza_filter/stanzafilter/engine/Action;J)Lcom/example/stanza_filter/stanzafilter/engine/PrivacyItem;"⟩ : MethodName)) hown (mvT hZ (hw _ (List.mem_of_getElem? (i := 33) rfl))) (mvT hZ (hw _ (List.mem_of_getElem? (i := 34) rfl))) (mvT hZ (hw _ (List.mem_of_getElem? (i := 35) rfl))) (mvT hZ (hw _ (List.mem_of_getElem? (i := 36) rfl))) (by decide) (backOfS (W := 0) (rm5_o1_act_ord l Z a0 hw [] o9 act ord w_EMPTY_SET h0 n0 Z0 E_o9 S_EMPTY_SET hc16 hc25) hZ (hw _ (List.mem_of_getElem? (i := 36) rfl)) (hw _ (List.mem_of_getElem? (i := 35) rfl)) (by decide) (by decide)) (g := (mkF m 139 #[.val (.long q1), .second, .val (.int p2), .val (.int p3), .val (.int p4), .val (.int p5), .val (.long ord), .second, .val (.ref act), .val (.int sc), .val (.ref scr), .val (.int ln), .val (.int x0), .val (.int x1), .val (.int x2), .val (.ref o9), .unset] [(.long ord), (.ref act), (.ref o9)])) rfl (by rw [hml]; rfl) (argsL := [(.ref o9), (.ref act), (.long ord)]) (rest := []) (lenOf pd__Ljava_lang_String_Lcom_example_stanza_filter_stanzafilter_engine_Action_J_Lcom_example_stanza_filter_stanzafilter_engine_PrivacyItem_ rfl) rfl (by show 2 * 0 + _ ≤ _; exact Nat.le_of_eq rfl) (hb hby at_139) (fun _ _ => ⟨rfl, e0, (by decide : 4 + 5 ≤ _), (by decide : 10 + 58 ≤ _)⟩)
  dsimp only [Pt.U, Pt.locs, Pt.cells, Pt.slots] at X1 l1 y1 z1 st1 hQ1 hSq1 hgq1
  subst l1 y1 z1
  obtain ⟨b1c1, rfl, N1q, Kq1, s_b1c1, fq1_0, fq1_1, fq1_2, fq1_3, fq1_4, fq1_5, fq1_6⟩ := hQ1
  have N1 := Fr.app N0 N1q
  have hS1 := foldS (T := T0) hS (own_leT e0 hk) hSq1 hgq1
  have hk1 : T1.heap.size ≤ T1.heap.size := Nat.le_refl _
  have hZ1 : Z.Warmed39 (s.setVm T1.vm).vm := State.Warmed39.trans (t := s.setVm _) hZ hSq1.1
  have hown1 : (s.setVm T1.vm).vm.findClass "com/example/stanza_filter/stanzafilter/engine/PrivacyItemGroupPinLaw" = some m.cls := by rw [show (s.setVm T1.vm).vm = T1.vm from rfl, hSq1.1.alike.findClass]; exact hown
  have XW1 : Stand p l e _ (s.setVm T1.vm) m _ below meth c T1 _ _ _ := X1
  have g_b1c1 : n0 ≤ b1c1 := Nat.le_trans Z0 s_b1c1
  have sz_b1c1 : h0.size ≤ b1c1 := s_b1c1
  have K1 : Keep h0 T1.heap [] := (Keep.refl h0 []).trans Kq1 all0
  obtain ⟨cq2, kq2, q2a, q2b, q2c⟩ := isOf hZ1 rfl fq1_0
  obtain ⟨_, _, ⟨T2, L2, k2, n2⟩, -, X2, ⟨Lc2, hQ2, l2, y2, z2⟩, st2⟩ := XW1.virtualBack hx (y := (⟨"com/example/stanza_filter/stanzafilter/engine/PrivacyItem", "order", "()J"⟩ : MethodName)) (z := (⟨"com/example/stanza_filter/stanzafilter/engine/PrivacyItem", "order", "()J"⟩ : MethodName)) hown1 (mvT hZ1 (hw _ (List.mem_of_getElem? (i := 69) rfl))) (mvT hZ1 (hw _ (List.mem_of_getElem? (i := 70) rfl))) (notFace_of_selects (args := #[]) (mvT hZ1 (hw _ (List.mem_of_getElem? (i := 72) rfl)))) (mvT hZ1 (hw _ (List.mem_of_getElem? (i := 72) rfl))) (mvT hZ1 (hw _ (List.mem_of_getElem? (i := 71) rfl))) (by decide) (backOf (W := 0) (rm9_o1 l Z a0 hw [] b1c1 ord T1.heap n0 (Nat.le_trans Z0 K1.1) fq1_5) hZ1 (hw _ (List.mem_of_getElem? (i := 73) rfl)) (hw _ (List.mem_of_getElem? (i := 35) rfl)) (by decide) (by decide)) q2a q2c (g := (mkF m 146 #[.val (.long q1), .second, .val (.int p2), .val (.int p3), .val (.int p4), .val (.int p5), .val (.long ord), .second, .val (.ref act), .val (.int sc), .val (.ref scr), .val (.int ln), .val (.int x0), .val (.int x1), .val (.int x2), .val (.ref o9), .val (.ref b1c1)] [(.ref b1c1)])) rfl (by rw [hml]; rfl) (Steps.refl _) (argsL := []) (rest := []) (lenOf pd___J rfl) rfl (by show 2 * 0 + _ ≤ _; exact Nat.le_of_eq rfl) (hb hby at_146) (fun _ _ => ⟨rfl, rfl, (by decide : 9 + 0 ≤ _), (by decide : 68 + 0 ≤ _)⟩)
  dsimp only [Pt.U, Pt.locs, Pt.cells, Pt.slots] at X2 l2 y2 z2 st2 hQ2
  subst l2 y2 z2
  obtain ⟨rfl, N2q, e2⟩ := hQ2
  have N2 := Fr.app N1 N2q
  obtain ⟨cq3, kq3, q3a, q3b, q3c⟩ := isOf hZ1 e2 fq1_0
  obtain ⟨_, _, ⟨T3, L3, k3, n3⟩, -, X3, ⟨Lc3, hQ3, l3, y3, z3⟩, st3⟩ := X2.virtualBack hx (y := (⟨"com/example/stanza_filter/stanzafilter/engine/PrivacyItem", "action", "()Lcom/example/stanza_filter/stanzafilter/engine/Action;"⟩ : MethodName)) (z := (⟨"com/example/stanza_filter/stanzafilter/engine/PrivacyItem", "action", "()Lcom/example/stanza_filter/stanzafilter/engine/Action;"⟩ : MethodName)) hown1 (mvT hZ1 (hw _ (List.mem_of_getElem? (i := 74) rfl))) (mvT hZ1 (hw _ (List.mem_of_getElem? (i := 75) rfl))) (notFace_of_selects (args := #[]) (mvT hZ1 (hw _ (List.mem_of_getElem? (i := 77) rfl)))) (mvT hZ1 (hw _ (List.mem_of_getElem? (i := 77) rfl))) (mvT hZ1 (hw _ (List.mem_of_getElem? (i := 76) rfl))) (by decide) (backOf (W := 0) (rm10_o1 l Z a0 hw [] b1c1 act T1.heap n0 (Nat.le_trans Z0 K1.1) fq1_4) hZ1 (hw _ (List.mem_of_getElem? (i := 78) rfl)) (hw _ (List.mem_of_getElem? (i := 35) rfl)) (by decide) (by decide)) q3a q3c (g := (mkF m 157 #[.val (.long q1), .second, .val (.int p2), .val (.int p3), .val (.int p4), .val (.int p5), .val (.long ord), .second, .val (.ref act), .val (.int sc), .val (.ref scr), .val (.int ln), .val (.int x0), .val (.int x1), .val (.int x2), .val (.ref o9), .val (.ref b1c1)] [(.ref b1c1)])) rfl (by rw [hml]; rfl) (Steps.refl _) (argsL := []) (rest := []) (lenOf pd___Lcom_example_stanza_filter_stanzafilter_engine_Action_ rfl) rfl (by show 2 * 0 + _ ≤ _; exact Nat.le_of_eq rfl) (hb hby at_157) (fun _ _ => ⟨rfl, e2, (by decide : 9 + 0 ≤ _), (by decide : 68 + 0 ≤ _)⟩)
  dsimp only [Pt.U, Pt.locs, Pt.cells, Pt.slots] at X3 l3 y3 z3 st3 hQ3
  subst l3 y3 z3
  obtain ⟨rfl, N3q, e3⟩ := hQ3
  have N3 := Fr.app N2 N3q
  obtain ⟨cq4, kq4, q4a, q4b, q4c⟩ := isOf hZ1 e3 fq1_0
  obtain ⟨_, _, ⟨T4, L4, k4, n4⟩, -, X4, ⟨Lc4, hQ4, l4, y4, z4⟩, st4⟩ := X3.virtualBack hx (y := (⟨"com/example/stanza_filter/stanzafilter/engine/PrivacyItem", "jid", "()Lcom/example/stanza_filter/stanzafilter/engine/Jid;"⟩ : MethodName)) (z := (⟨"com/example/stanza_filter/stanzafilter/engine/PrivacyItem", "jid", "()Lcom/example/stanza_filter/stanzafilter/engine/Jid;"⟩ : MethodName)) hown1 (mvT hZ1 (hw _ (List.mem_of_getElem? (i := 79) rfl))) (mvT hZ1 (hw _ (List.mem_of_getElem? (i := 80) rfl))) (notFace_of_selects (args := #[]) (mvT hZ1 (hw _ (List.mem_of_getElem? (i := 82) rfl)))) (mvT hZ1 (hw _ (List.mem_of_getElem? (i := 82) rfl))) (mvT hZ1 (hw _ (List.mem_of_getElem? (i := 81) rfl))) (by decide) (backOf (W := 0) (rm11_o1 l Z a0 hw [] b1c1 T1.heap n0 (Nat.le_trans Z0 K1.1) fq1_1) hZ1 (hw _ (List.mem_of_getElem? (i := 83) rfl)) (hw _ (List.mem_of_getElem? (i := 35) rfl)) (by decide) (by decide)) q4a q4c (g := (mkF m 167 #[.val (.long q1), .second, .val (.int p2), .val (.int p3), .val (.int p4), .val (.int p5), .val (.long ord), .second, .val (.ref act), .val (.int sc), .val (.ref scr), .val (.int ln), .val (.int x0), .val (.int x1), .val (.int x2), .val (.ref o9), .val (.ref b1c1)] [(.ref b1c1)])) rfl (by rw [hml]; rfl) (Steps.refl _) (argsL := []) (rest := []) (lenOf pd___Lcom_example_stanza_filter_stanzafilter_engine_Jid_ rfl) rfl (by show 2 * 0 + _ ≤ _; exact Nat.le_of_eq rfl) (hb hby at_167) (fun _ _ => ⟨rfl, e3, (by decide : 9 + 0 ≤ _), (by decide : 68 + 0 ≤ _)⟩)
  dsimp only [Pt.U, Pt.locs, Pt.cells, Pt.slots] at X4 l4 y4 z4 st4 hQ4
  subst l4 y4 z4
  obtain ⟨rfl, N4q, e4⟩ := hQ4
  have N4 := Fr.app N3 N4q
  obtain ⟨cq5, kq5, q5a, q5b, q5c⟩ := isOf hZ1 e4 fq1_0
  obtain ⟨_, _, ⟨T5, L5, k5, n5⟩, -, X5, ⟨Lc5, hQ5, l5, y5, z5⟩, st5⟩ := X4.virtualBack hx (y := (⟨"com/example/stanza_filter/stanzafilter/engine/PrivacyItem", "subscription", "()Lcom/example/stanza_filter/stanzafilter/engine/Subscription;"⟩ : MethodName)) (z := (⟨"com/example/stanza_filter/stanzafilter/engine/PrivacyItem", "subscription", "()Lcom/example/stanza_filter/stanzafilter/engine/Subscription;"⟩ : MethodName)) hown1 (mvT hZ1 (hw _ (List.mem_of_getElem? (i := 84) rfl))) (mvT hZ1 (hw _ (List.mem_of_getElem? (i := 85) rfl))) (notFace_of_selects (args := #[]) (mvT hZ1 (hw _ (List.mem_of_getElem? (i := 87) rfl)))) (mvT hZ1 (hw _ (List.mem_of_getElem? (i := 87) rfl))) (mvT hZ1 (hw _ (List.mem_of_getElem? (i := 86) rfl))) (by decide) (backOf (W := 0) (rm12_o1 l Z a0 hw [] b1c1 T1.heap n0 (Nat.le_trans Z0 K1.1) fq1_3) hZ1 (hw _ (List.mem_of_getElem? (i := 88) rfl)) (hw _ (List.mem_of_getElem? (i := 35) rfl)) (by decide) (by decide)) q5a q5c (g := (mkF m 175 #[.val (.long q1), .second, .val (.int p2), .val (.int p3), .val (.int p4), .val (.int p5), .val (.long ord), .second, .val (.ref act), .val (.int sc), .val (.ref scr), .val (.int ln), .val (.int x0), .val (.int x1), .val (.int x2), .val (.ref o9), .val (.ref b1c1)] [(.ref b1c1)])) rfl (by rw [hml]; rfl) (Steps.refl _) (argsL := []) (rest := []) (lenOf pd___Lcom_example_stanza_filter_stanzafilter_engine_Subscription_ rfl) rfl (by show 2 * 0 + _ ≤ _; exact Nat.le_of_eq rfl) (hb hby at_175) (fun _ _ => ⟨rfl, e4, (by decide : 9 + 0 ≤ _), (by decide : 68 + 0 ≤ _)⟩)
  dsimp only [Pt.U, Pt.locs, Pt.cells, Pt.slots] at X5 l5 y5 z5 st5 hQ5
  subst l5 y5 z5
  obtain ⟨rfl, N5q, e5⟩ := hQ5
  have N5 := Fr.app N4 N5q
  obtain ⟨cq6, kq6, q6a, q6b, q6c⟩ := isOf hZ1 e5 fq1_0
  obtain ⟨_, _, ⟨T6, L6, k6, n6⟩, -, X6, ⟨Lc6, hQ6, l6, y6, z6⟩, st6⟩ := X5.virtualBack hx (y := (⟨"com/example/stanza_filter/stanzafilter/engine/PrivacyItem", "group", "()Ljava/lang/String;"⟩ : MethodName)) (z := (⟨"com/example/stanza_filter/stanzafilter/engine/PrivacyItem", "group", "()Ljava/lang/String;"⟩ : MethodName)) hown1 (mvT hZ1 (hw _ (List.mem_of_getElem? (i := 89) rfl))) (mvT hZ1 (hw _ (List.mem_of_getElem? (i := 90) rfl))) (notFace_of_selects (args := #[]) (mvT hZ1 (hw _ (List.mem_of_getElem? (i := 92) rfl)))) (mvT hZ1 (hw _ (List.mem_of_getElem? (i := 92) rfl))) (mvT hZ1 (hw _ (List.mem_of_getElem? (i := 91) rfl))) (by decide) (backOf (W := 1) (rm13_o1 l Z a0 hw [] b1c1 o9 T1.heap n0 (Nat.le_trans Z0 K1.1) fq1_2) hZ1 (hw _ (List.mem_of_getElem? (i := 93) rfl)) (hw _ (List.mem_of_getElem? (i := 35) rfl)) (by decide) (by decide)) q6a q6c (g := (mkF m 185 #[.val (.long q1), .second, .val (.int p2), .val (.int p3), .val (.int p4), .val (.int p5), .val (.long ord), .second, .val (.ref act), .val (.int sc), .val (.ref scr), .val (.int ln), .val (.int x0), .val (.int x1), .val (.int x2), .val (.ref o9), .val (.ref b1c1)] [(.ref b1c1), (.ref o9)])) rfl (by rw [hml]; rfl) (Steps.refl _) (argsL := []) (rest := [(.ref o9)]) (lenOf pd___Ljava_lang_String_ rfl) rfl (by show 2 * 0 + _ ≤ _; exact Nat.le_of_eq rfl) (hb hby at_185) (fun _ _ => ⟨rfl, e5, (by decide : 9 + 0 ≤ _), (by decide : 68 + 0 ≤ _)⟩)
  dsimp only [Pt.U, Pt.locs, Pt.cells, Pt.slots] at X6 l6 y6 z6 st6 hQ6
  subst l6 y6 z6
  obtain ⟨rfl, N6q, e6⟩ := hQ6
  have N6 := Fr.app N5 N6q
  obtain ⟨cq7, kq7, q7a, q7b, q7c⟩ := isOf hZ1 e6 (E_o9.keep K1)
  obtain ⟨_, _, ⟨T7, L7, k7, n7⟩, -, X7, ⟨Lc7, hQ7, l7, y7, z7⟩, st7⟩ := X6.virtualBack hx (y := (⟨"java/lang/String", "equals", "(Ljava/lang/Object;)Z"⟩ : MethodName)) (z := (⟨"java/lang/String", "equals", "(Ljava/lang/Object;)Z"⟩ : MethodName)) hown1 (mvT hZ1 (hw _ (List.mem_of_getElem? (i := 94) rfl))) (mvT hZ1 (hw _ (List.mem_of_getElem? (i := 95) rfl))) (notFace_of_selects (args := #[]) (mvT hZ1 (hw _ (List.mem_of_getElem? (i := 97) rfl)))) (mvT hZ1 (hw _ (List.mem_of_getElem? (i := 97) rfl))) (mvT hZ1 (hw _ (List.mem_of_getElem? (i := 96) rfl))) (by decide) (backOf (W := 0) (rm14_o1_o1 l Z a0 hw [] o9 T1.heap n0 (Nat.le_trans Z0 K1.1)) hZ1 (hw _ (List.mem_of_getElem? (i := 98) rfl)) (hw _ (List.mem_of_getElem? (i := 13) rfl)) (by decide) (by decide)) q7a q7c (g := (mkF m 188 #[.val (.long q1), .second, .val (.int p2), .val (.int p3), .val (.int p4), .val (.int p5), .val (.long ord), .second, .val (.ref act), .val (.int sc), .val (.ref scr), .val (.int ln), .val (.int x0), .val (.int x1), .val (.int x2), .val (.ref o9), .val (.ref b1c1)] [(.ref o9), (.ref o9)])) rfl (by rw [hml]; rfl) (Steps.refl _) (argsL := [(.ref o9)]) (rest := []) (lenOf pd__Ljava_lang_Object__Z rfl) rfl (by show 2 * 0 + _ ≤ _; exact Nat.le_of_eq rfl) (hb hby at_188) (fun _ _ => ⟨rfl, e6, (by decide : 9 + 0 ≤ _), (by decide : 68 + 0 ≤ _)⟩)
  dsimp only [Pt.U, Pt.locs, Pt.cells, Pt.slots] at X7 l7 y7 z7 st7 hQ7
  subst l7 y7 z7
  obtain ⟨rfl, N7q, e7⟩ := hQ7
  have N7 := Fr.app N6 N7q
  obtain ⟨cq8, kq8, q8a, q8b, q8c⟩ := isOf hZ1 e7 fq1_0
  obtain ⟨_, _, ⟨T8, L8, k8, n8⟩, -, X8, ⟨Lc8, hQ8, l8, y8, z8⟩, st8⟩ := X7.virtualBack hx (y := (⟨"com/example/stanza_filter/stanzafilter/engine/PrivacyItem", "covers", "(Lcom/example/stanza_filter/stanzafilter/engine/Scope;)Z"⟩ : MethodName)) (z := (⟨"com/example/stanza_filter/stanzafilter/engine/PrivacyItem", "covers", "(Lcom/example/stanza_filter/stanzafilter/engine/Scope;)Z"⟩ : MethodName)) hown1 (mvT hZ1 (hw _ (List.mem_of_getElem? (i := 99) rfl))) (mvT hZ1 (hw _ (List.mem_of_getElem? (i := 100) rfl))) (notFace_of_selects (args := #[]) (mvT hZ1 (hw _ (List.mem_of_getElem? (i := 102) rfl)))) (mvT hZ1 (hw _ (List.mem_of_getElem? (i := 102) rfl))) (mvT hZ1 (hw _ (List.mem_of_getElem? (i := 101) rfl))) (by decide) (backOf (W := 0) (rm15_o1_scr l Z a0 hw [] b1c1 scr w_EMPTY_SET T1.heap n0 (Nat.le_trans Z0 K1.1) fq1_6 (F_size_w_EMPTY_SET.keep K1 nin0) (E_w_EMPTY_SET.keep K1)) hZ1 (hw _ (List.mem_of_getElem? (i := 103) rfl)) (hw _ (List.mem_of_getElem? (i := 35) rfl)) (by decide) (by decide)) q8a q8c (g := (mkF m 198 #[.val (.long q1), .second, .val (.int p2), .val (.int p3), .val (.int p4), .val (.int p5), .val (.long ord), .second, .val (.ref act), .val (.int sc), .val (.ref scr), .val (.int ln), .val (.int x0), .val (.int x1), .val (.int x2), .val (.ref o9), .val (.ref b1c1)] [(.ref scr), (.ref b1c1)])) rfl (by rw [hml]; rfl) (Steps.refl _) (argsL := [(.ref scr)]) (rest := []) (lenOf pd__Lcom_example_stanza_filter_stanzafilter_engine_Scope__Z rfl) rfl (by show 2 * 0 + _ ≤ _; exact Nat.le_of_eq rfl) (hb hby at_198) (fun _ _ => ⟨rfl, e7, (by decide : 9 + 0 ≤ _), (by decide : 68 + 0 ≤ _)⟩)
  dsimp only [Pt.U, Pt.locs, Pt.cells, Pt.slots] at X8 l8 y8 z8 st8 hQ8
  subst l8 y8 z8
  obtain ⟨rfl, N8q, e8⟩ := hQ8
  have N8 := Fr.app N7 N8q
  obtain ⟨cq9, kq9, q9a, q9b, q9c⟩ := isOf hZ1 e8 fq1_0
  obtain ⟨_, _, ⟨T9, L9, k9, n9⟩, -, X9, ⟨Lc9, hQ9, l9, y9, z9⟩, st9⟩ := X8.virtualBack hx (y := (⟨"com/example/stanza_filter/stanzafilter/engine/PrivacyItem", "isBlocklistEntry", "()Z"⟩ : MethodName)) (z := (⟨"com/example/stanza_filter/stanzafilter/engine/PrivacyItem", "isBlocklistEntry", "()Z"⟩ : MethodName)) hown1 (mvT hZ1 (hw _ (List.mem_of_getElem? (i := 116) rfl))) (mvT hZ1 (hw _ (List.mem_of_getElem? (i := 117) rfl))) (notFace_of_selects (args := #[]) (mvT hZ1 (hw _ (List.mem_of_getElem? (i := 119) rfl)))) (mvT hZ1 (hw _ (List.mem_of_getElem? (i := 119) rfl))) (mvT hZ1 (hw _ (List.mem_of_getElem? (i := 118) rfl))) (by decide) (backOf (W := 0) (rm17_o1 l Z a0 hw [] b1c1 T1.heap n0 (Nat.le_trans Z0 K1.1) fq1_1) hZ1 (hw _ (List.mem_of_getElem? (i := 120) rfl)) (hw _ (List.mem_of_getElem? (i := 35) rfl)) (by decide) (by decide)) q9a q9c (g := (mkF m 206 #[.val (.long q1), .second, .val (.int p2), .val (.int p3), .val (.int p4), .val (.int p5), .val (.long ord), .second, .val (.ref act), .val (.int sc), .val (.ref scr), .val (.int ln), .val (.int x0), .val (.int x1), .val (.int x2), .val (.ref o9), .val (.ref b1c1)] [(.ref b1c1)])) rfl (by rw [hml]; rfl) (Steps.refl _) (argsL := []) (rest := []) (lenOf pd___Z rfl) rfl (by show 2 * 0 + _ ≤ _; exact Nat.le_of_eq rfl) (hb hby at_206) (fun _ _ => ⟨rfl, e8, (by decide : 9 + 0 ≤ _), (by decide : 68 + 0 ≤ _)⟩)
  dsimp only [Pt.U, Pt.locs, Pt.cells, Pt.slots] at X9 l9 y9 z9 st9 hQ9
  subst l9 y9 z9
  obtain ⟨rfl, N9q, e9⟩ := hQ9
  have N9 := Fr.app N8 N9q
  refine ⟨T9, _, #[.val (.long q1), .second, .val (.int p2), .val (.int p3), .val (.int p4), .val (.int p5), .val (.long ord), .second, .val (.ref act), .val (.int sc), .val (.ref scr), .val (.int ln), .val (.int x0), .val (.int x1), .val (.int x2), .val (.ref o9), .val (.ref b1c1)], _, _, X9, N9, hS1, own_leT e9 hk1, fun target kt => ?_⟩
  show Steps p.tables e below (T0.setTop (mkF m 133 #[.val (.long q1), .second, .val (.int p2), .val (.int p3), .val (.int p4), .val (.int p5), .val (.long ord), .second, .val (.ref act), .val (.int sc), .val (.ref scr), .val (.int ln), .val (.int x0), .val (.int x1), .val (.int x2), .val (.ref o9), .unset] [])) _
  refine XS.aload X0.here hx rfl (hb hby at_133) rfl rfl ?_
  show Steps p.tables e below (T0.setTop (mkF m 135 #[.val (.long q1), .second, .val (.int p2), .val (.int p3), .val (.int p4), .val (.int p5), .val (.long ord), .second, .val (.ref act), .val (.int sc), .val (.ref scr), .val (.int ln), .val (.int x0), .val (.int x1), .val (.int x2), .val (.ref o9), .unset] [(.ref o9)])) _
  refine XS.aload X0.here hx rfl (hb hby at_135) rfl rfl ?_
  show Steps p.tables e below (T0.setTop (mkF m 137 #[.val (.long q1), .second, .val (.int p2), .val (.int p3), .val (.int p4), .val (.int p5), .val (.long ord), .second, .val (.ref act), .val (.int sc), .val (.ref scr), .val (.int ln), .val (.int x0), .val (.int x1), .val (.int x2), .val (.ref o9), .unset] [(.ref act), (.ref o9)])) _
  refine XS.lload X0.here hx rfl (hb hby at_137) rfl ?_
  show Steps p.tables e below (T0.setTop (mkF m 139 #[.val (.long q1), .second, .val (.int p2), .val (.int p3), .val (.int p4), .val (.int p5), .val (.long ord), .second, .val (.ref act), .val (.int sc), .val (.ref scr), .val (.int ln), .val (.int x0), .val (.int x1), .val (.int x2), .val (.ref o9), .unset] [(.long ord), (.ref act), (.ref o9)])) _
  refine st1.trans ?_
  show Steps p.tables e below (T1.setTop (mkF m 142 #[.val (.long q1), .second, .val (.int p2), .val (.int p3), .val (.int p4), .val (.int p5), .val (.long ord), .second, .val (.ref act), .val (.int sc), .val (.ref scr), .val (.int ln), .val (.int x0), .val (.int x1), .val (.int x2), .val (.ref o9), .unset] [(.ref b1c1)])) _
  refine XS.astore XW1.here hx rfl (hb hby at_142) rfl rfl (l' := #[.val (.long q1), .second, .val (.int p2), .val (.int p3), .val (.int p4), .val (.int p5), .val (.long ord), .second, .val (.ref act), .val (.int sc), .val (.ref scr), .val (.int ln), .val (.int x0), .val (.int x1), .val (.int x2), .val (.ref o9), .val (.ref b1c1)]) rfl ?_
  show Steps p.tables e below (T1.setTop (mkF m 144 #[.val (.long q1), .second, .val (.int p2), .val (.int p3), .val (.int p4), .val (.int p5), .val (.long ord), .second, .val (.ref act), .val (.int sc), .val (.ref scr), .val (.int ln), .val (.int x0), .val (.int x1), .val (.int x2), .val (.ref o9), .val (.ref b1c1)] [])) _
  refine XS.aload XW1.here hx rfl (hb hby at_144) rfl rfl ?_
  show Steps p.tables e below (T1.setTop (mkF m 146 #[.val (.long q1), .second, .val (.int p2), .val (.int p3), .val (.int p4), .val (.int p5), .val (.long ord), .second, .val (.ref act), .val (.int sc), .val (.ref scr), .val (.int ln), .val (.int x0), .val (.int x1), .val (.int x2), .val (.ref o9), .val (.ref b1c1)] [(.ref b1c1)])) _
  refine st2.trans ?_
  show Steps p.tables e below (T2.setTop (mkF m 149 #[.val (.long q1), .second, .val (.int p2), .val (.int p3), .val (.int p4), .val (.int p5), .val (.long ord), .second, .val (.ref act), .val (.int sc), .val (.ref scr), .val (.int ln), .val (.int x0), .val (.int x1), .val (.int x2), .val (.ref o9), .val (.ref b1c1)] [(.long ord)])) _
  refine XS.lload X2.here hx rfl (hb hby at_149) rfl ?_
  show Steps p.tables e below (T2.setTop (mkF m 151 #[.val (.long q1), .second, .val (.int p2), .val (.int p3), .val (.int p4), .val (.int p5), .val (.long ord), .second, .val (.ref act), .val (.int sc), .val (.ref scr), .val (.int ln), .val (.int x0), .val (.int x1), .val (.int x2), .val (.ref o9), .val (.ref b1c1)] [(.long ord), (.long ord)])) _
  refine XS.lcmp X2.here hx rfl (hb hby at_151) rfl ?_
  show Steps p.tables e below (T2.setTop (mkF m 152 #[.val (.long q1), .second, .val (.int p2), .val (.int p3), .val (.int p4), .val (.int p5), .val (.long ord), .second, .val (.ref act), .val (.int sc), .val (.ref scr), .val (.int ln), .val (.int x0), .val (.int x1), .val (.int x2), .val (.ref o9), .val (.ref b1c1)] [(.int (lcmpW ord ord))])) _
  rw [own_lcmp0]
  show Steps p.tables e below (T2.setTop (mkF m 152 #[.val (.long q1), .second, .val (.int p2), .val (.int p3), .val (.int p4), .val (.int p5), .val (.long ord), .second, .val (.ref act), .val (.int sc), .val (.ref scr), .val (.int ln), .val (.int x0), .val (.int x1), .val (.int x2), .val (.ref o9), .val (.ref b1c1)] [(.int 0)])) _
  refine XS.ifNo X2.here hx rfl (hb hby at_152) rfl ((if0 _ _).trans (teq (by decide : (0 : Int32) = (0 : Int32))).2) ?_
  show Steps p.tables e below (T2.setTop (mkF m 155 #[.val (.long q1), .second, .val (.int p2), .val (.int p3), .val (.int p4), .val (.int p5), .val (.long ord), .second, .val (.ref act), .val (.int sc), .val (.ref scr), .val (.int ln), .val (.int x0), .val (.int x1), .val (.int x2), .val (.ref o9), .val (.ref b1c1)] [])) _
  refine XS.aload X2.here hx rfl (hb hby at_155) rfl rfl ?_
  show Steps p.tables e below (T2.setTop (mkF m 157 #[.val (.long q1), .second, .val (.int p2), .val (.int p3), .val (.int p4), .val (.int p5), .val (.long ord), .second, .val (.ref act), .val (.int sc), .val (.ref scr), .val (.int ln), .val (.int x0), .val (.int x1), .val (.int x2), .val (.ref o9), .val (.ref b1c1)] [(.ref b1c1)])) _
  refine st3.trans ?_
  show Steps p.tables e below (T3.setTop (mkF m 160 #[.val (.long q1), .second, .val (.int p2), .val (.int p3), .val (.int p4), .val (.int p5), .val (.long ord), .second, .val (.ref act), .val (.int sc), .val (.ref scr), .val (.int ln), .val (.int x0), .val (.int x1), .val (.int x2), .val (.ref o9), .val (.ref b1c1)] [(.ref act)])) _
  refine XS.aload X3.here hx rfl (hb hby at_160) rfl rfl ?_
  show Steps p.tables e below (T3.setTop (mkF m 162 #[.val (.long q1), .second, .val (.int p2), .val (.int p3), .val (.int p4), .val (.int p5), .val (.long ord), .second, .val (.ref act), .val (.int sc), .val (.ref scr), .val (.int ln), .val (.int x0), .val (.int x1), .val (.int x2), .val (.ref o9), .val (.ref b1c1)] [(.ref act), (.ref act)])) _
  refine Jvm.RoadKit.acmp (g := (mkF m 162 #[.val (.long q1), .second, .val (.int p2), .val (.int p3), .val (.int p4), .val (.int p5), .val (.long ord), .second, .val (.ref act), .val (.int sc), .val (.ref scr), .val (.int ln), .val (.int x0), .val (.int x1), .val (.int x2), .val (.ref o9), .val (.ref b1c1)] [(.ref act), (.ref act)])) X3 hx rfl rfl rfl (pc0 := 162) (pc' := 165) (same := true) rfl (hb hby at_162) rfl (decide_eq_true rfl) (by decide) (by decide) ?_
  show Steps p.tables e below (T3.setTop (mkF m 165 #[.val (.long q1), .second, .val (.int p2), .val (.int p3), .val (.int p4), .val (.int p5), .val (.long ord), .second, .val (.ref act), .val (.int sc), .val (.ref scr), .val (.int ln), .val (.int x0), .val (.int x1), .val (.int x2), .val (.ref o9), .val (.ref b1c1)] [])) _
  refine XS.aload X3.here hx rfl (hb hby at_165) rfl rfl ?_
  show Steps p.tables e below (T3.setTop (mkF m 167 #[.val (.long q1), .second, .val (.int p2), .val (.int p3), .val (.int p4), .val (.int p5), .val (.long ord), .second, .val (.ref act), .val (.int sc), .val (.ref scr), .val (.int ln), .val (.int x0), .val (.int x1), .val (.int x2), .val (.ref o9), .val (.ref b1c1)] [(.ref b1c1)])) _
  refine st4.trans ?_
  show Steps p.tables e below (T4.setTop (mkF m 170 #[.val (.long q1), .second, .val (.int p2), .val (.int p3), .val (.int p4), .val (.int p5), .val (.long ord), .second, .val (.ref act), .val (.int sc), .val (.ref scr), .val (.int ln), .val (.int x0), .val (.int x1), .val (.int x2), .val (.ref o9), .val (.ref b1c1)] [.null])) _
  refine XS.ifnonnullNo X4.here hx rfl (hb hby at_170) rfl ?_
  show Steps p.tables e below (T4.setTop (mkF m 173 #[.val (.long q1), .second, .val (.int p2), .val (.int p3), .val (.int p4), .val (.int p5), .val (.long ord), .second, .val (.ref act), .val (.int sc), .val (.ref scr), .val (.int ln), .val (.int x0), .val (.int x1), .val (.int x2), .val (.ref o9), .val (.ref b1c1)] [])) _
  refine XS.aload X4.here hx rfl (hb hby at_173) rfl rfl ?_
  show Steps p.tables e below (T4.setTop (mkF m 175 #[.val (.long q1), .second, .val (.int p2), .val (.int p3), .val (.int p4), .val (.int p5), .val (.long ord), .second, .val (.ref act), .val (.int sc), .val (.ref scr), .val (.int ln), .val (.int x0), .val (.int x1), .val (.int x2), .val (.ref o9), .val (.ref b1c1)] [(.ref b1c1)])) _
  refine st5.trans ?_
  show Steps p.tables e below (T5.setTop (mkF m 178 #[.val (.long q1), .second, .val (.int p2), .val (.int p3), .val (.int p4), .val (.int p5), .val (.long ord), .second, .val (.ref act), .val (.int sc), .val (.ref scr), .val (.int ln), .val (.int x0), .val (.int x1), .val (.int x2), .val (.ref o9), .val (.ref b1c1)] [.null])) _
  refine XS.ifnonnullNo X5.here hx rfl (hb hby at_178) rfl ?_
  show Steps p.tables e below (T5.setTop (mkF m 181 #[.val (.long q1), .second, .val (.int p2), .val (.int p3), .val (.int p4), .val (.int p5), .val (.long ord), .second, .val (.ref act), .val (.int sc), .val (.ref scr), .val (.int ln), .val (.int x0), .val (.int x1), .val (.int x2), .val (.ref o9), .val (.ref b1c1)] [])) _
  refine XS.aload X5.here hx rfl (hb hby at_181) rfl rfl ?_
  show Steps p.tables e below (T5.setTop (mkF m 183 #[.val (.long q1), .second, .val (.int p2), .val (.int p3), .val (.int p4), .val (.int p5), .val (.long ord), .second, .val (.ref act), .val (.int sc), .val (.ref scr), .val (.int ln), .val (.int x0), .val (.int x1), .val (.int x2), .val (.ref o9), .val (.ref b1c1)] [(.ref o9)])) _
  refine XS.aload X5.here hx rfl (hb hby at_183) rfl rfl ?_
  show Steps p.tables e below (T5.setTop (mkF m 185 #[.val (.long q1), .second, .val (.int p2), .val (.int p3), .val (.int p4), .val (.int p5), .val (.long ord), .second, .val (.ref act), .val (.int sc), .val (.ref scr), .val (.int ln), .val (.int x0), .val (.int x1), .val (.int x2), .val (.ref o9), .val (.ref b1c1)] [(.ref b1c1), (.ref o9)])) _
  refine st6.trans ?_
  show Steps p.tables e below (T6.setTop (mkF m 188 #[.val (.long q1), .second, .val (.int p2), .val (.int p3), .val (.int p4), .val (.int p5), .val (.long ord), .second, .val (.ref act), .val (.int sc), .val (.ref scr), .val (.int ln), .val (.int x0), .val (.int x1), .val (.int x2), .val (.ref o9), .val (.ref b1c1)] [(.ref o9), (.ref o9)])) _
  refine st7.trans ?_
  show Steps p.tables e below (T7.setTop (mkF m 191 #[.val (.long q1), .second, .val (.int p2), .val (.int p3), .val (.int p4), .val (.int p5), .val (.long ord), .second, .val (.ref act), .val (.int sc), .val (.ref scr), .val (.int ln), .val (.int x0), .val (.int x1), .val (.int x2), .val (.ref o9), .val (.ref b1c1)] [(.int 1)])) _
  refine XS.ifNo X7.here hx rfl (hb hby at_191) rfl ((if0 _ _).trans (feq (by decide : ¬ ((1 : Int32) = (0 : Int32)))).1) ?_
  show Steps p.tables e below (T7.setTop (mkF m 194 #[.val (.long q1), .second, .val (.int p2), .val (.int p3), .val (.int p4), .val (.int p5), .val (.long ord), .second, .val (.ref act), .val (.int sc), .val (.ref scr), .val (.int ln), .val (.int x0), .val (.int x1), .val (.int x2), .val (.ref o9), .val (.ref b1c1)] [])) _
  refine XS.aload X7.here hx rfl (hb hby at_194) rfl rfl ?_
  show Steps p.tables e below (T7.setTop (mkF m 196 #[.val (.long q1), .second, .val (.int p2), .val (.int p3), .val (.int p4), .val (.int p5), .val (.long ord), .second, .val (.ref act), .val (.int sc), .val (.ref scr), .val (.int ln), .val (.int x0), .val (.int x1), .val (.int x2), .val (.ref o9), .val (.ref b1c1)] [(.ref b1c1)])) _
  refine XS.aload X7.here hx rfl (hb hby at_196) rfl rfl ?_
  show Steps p.tables e below (T7.setTop (mkF m 198 #[.val (.long q1), .second, .val (.int p2), .val (.int p3), .val (.int p4), .val (.int p5), .val (.long ord), .second, .val (.ref act), .val (.int sc), .val (.ref scr), .val (.int ln), .val (.int x0), .val (.int x1), .val (.int x2), .val (.ref o9), .val (.ref b1c1)] [(.ref scr), (.ref b1c1)])) _
  refine st8.trans ?_
  show Steps p.tables e below (T8.setTop (mkF m 201 #[.val (.long q1), .second, .val (.int p2), .val (.int p3), .val (.int p4), .val (.int p5), .val (.long ord), .second, .val (.ref act), .val (.int sc), .val (.ref scr), .val (.int ln), .val (.int x0), .val (.int x1), .val (.int x2), .val (.ref o9), .val (.ref b1c1)] [(.int 1)])) _
  refine XS.ifNo X8.here hx rfl (hb hby at_201) rfl ((if0 _ _).trans (feq (by decide : ¬ ((1 : Int32) = (0 : Int32)))).1) ?_
  show Steps p.tables e below (T8.setTop (mkF m 204 #[.val (.long q1), .second, .val (.int p2), .val (.int p3), .val (.int p4), .val (.int p5), .val (.long ord), .second, .val (.ref act), .val (.int sc), .val (.ref scr), .val (.int ln), .val (.int x0), .val (.int x1), .val (.int x2), .val (.ref o9), .val (.ref b1c1)] [])) _
  refine XS.aload X8.here hx rfl (hb hby at_204) rfl rfl ?_
  show Steps p.tables e below (T8.setTop (mkF m 206 #[.val (.long q1), .second, .val (.int p2), .val (.int p3), .val (.int p4), .val (.int p5), .val (.long ord), .second, .val (.ref act), .val (.int sc), .val (.ref scr), .val (.int ln), .val (.int x0), .val (.int x1), .val (.int x2), .val (.ref o9), .val (.ref b1c1)] [(.ref b1c1)])) _
  refine st9.trans ?_
  show Steps p.tables e below (T9.setTop (mkF m 209 #[.val (.long q1), .second, .val (.int p2), .val (.int p3), .val (.int p4), .val (.int p5), .val (.long ord), .second, .val (.ref act), .val (.int sc), .val (.ref scr), .val (.int ln), .val (.int x0), .val (.int x1), .val (.int x2), .val (.ref o9), .val (.ref b1c1)] [(.int 0)])) _
  refine XS.ifNo X9.here hx rfl (hb hby at_209) rfl ((if0 _ _).trans (teq (by decide : (0 : Int32) = (0 : Int32))).2) ?_
  show Steps p.tables e below (T9.setTop (mkF m 212 #[.val (.long q1), .second, .val (.int p2), .val (.int p3), .val (.int p4), .val (.int p5), .val (.long ord), .second, .val (.ref act), .val (.int sc), .val (.ref scr), .val (.int ln), .val (.int x0), .val (.int x1), .val (.int x2), .val (.ref o9), .val (.ref b1c1)] [])) _
  refine XS.iconst X9.here hx rfl (hb hby at_212) ?_
  show Steps p.tables e below (T9.setTop (mkF m 213 #[.val (.long q1), .second, .val (.int p2), .val (.int p3), .val (.int p4), .val (.int p5), .val (.long ord), .second, .val (.ref act), .val (.int sc), .val (.ref scr), .val (.int ln), .val (.int x0), .val (.int x1), .val (.int x2), .val (.ref o9), .val (.ref b1c1)] [(.int 1)])) _
  refine XS.goto X9.here hx rfl (pc0 := 213) (pc' := 217) rfl (hb hby at_213) (by decide) (by decide) ?_
  show Steps p.tables e below (T9.setTop (mkF m 217 #[.val (.long q1), .second, .val (.int p2), .val (.int p3), .val (.int p4), .val (.int p5), .val (.long ord), .second, .val (.ref act), .val (.int sc), .val (.ref scr), .val (.int ln), .val (.int x0), .val (.int x1), .val (.int x2), .val (.ref o9), .val (.ref b1c1)] [(.int 1)])) _
  exact kt
def Q0_all (Z : State) (q1 : Int64) (p2 : Int32) (p3 : Int32) (p4 : Int32) (p5 : Int32) (w_ALLOW : Addr) (w_DENY : Addr) (w_MESSAGE : Addr) (w_IQ : Addr) (w_PRESENCE_IN : Addr) (w_PRESENCE_OUT : Addr) (w_COMPACT_STRINGS : Int32) (w_EMPTY_SET : Addr) (h0 : Heap) (n0 : Nat) (v : Option Value) (h : Heap) (L : List Loc) : Prop := v = some (.int 1) ∧ Fr n0 L ∧ True
set_option maxRecDepth 65536 in
set_option maxHeartbeats 40000000 in
theorem rm0_all (l : Launch) (Z : State) (a0 : Array Value) (hw : ∀ d ∈ tables_1, d.before a0 Z = true) (ws : List Jvm.Cond) (q1 : Int64) (p2 : Int32) (p3 : Int32) (p4 : Int32) (p5 : Int32) (w_ALLOW : Addr) (w_DENY : Addr) (w_MESSAGE : Addr) (w_IQ : Addr) (w_PRESENCE_IN : Addr) (w_PRESENCE_OUT : Addr) (w_COMPACT_STRINGS : Int32) (w_EMPTY_SET : Addr) (h0 : Heap) (n0 : Nat) (Z0 : n0 ≤ h0.size) (S_ALLOW : Sta Z h0 "com/example/stanza_filter/stanzafilter/engine/Action" "ALLOW" "Lcom/example/stanza_filter/stanzafilter/engine/Action;" (.ref w_ALLOW)) (S_DENY : Sta Z h0 "com/example/stanza_filter/stanzafilter/engine/Action" "DENY" "Lcom/example/stanza_filter/stanzafilter/engine/Action;" (.ref w_DENY)) (S_MESSAGE : Sta Z h0 "com/example/stanza_filter/stanzafilter/engine/Scope" "MESSAGE" "Lcom/example/stanza_filter/stanzafilter/engine/Scope;" (.ref w_MESSAGE)) (S_IQ : Sta Z h0 "com/example/stanza_filter/stanzafilter/engine/Scope" "IQ" "Lcom/example/stanza_filter/stanzafilter/engine/Scope;" (.ref w_IQ)) (S_PRESENCE_IN : Sta Z h0 "com/example/stanza_filter/stanzafilter/engine/Scope" "PRESENCE_IN" "Lcom/example/stanza_filter/stanzafilter/engine/Scope;" (.ref w_PRESENCE_IN)) (S_PRESENCE_OUT : Sta Z h0 "com/example/stanza_filter/stanzafilter/engine/Scope" "PRESENCE_OUT" "Lcom/example/stanza_filter/stanzafilter/engine/Scope;" (.ref w_PRESENCE_OUT)) (S_COMPACT_STRINGS : Sta Z h0 "java/lang/String" "COMPACT_STRINGS" "Z" (.int w_COMPACT_STRINGS)) (S_EMPTY_SET : Sta Z h0 "java/util/ImmutableCollections" "EMPTY_SET" "Ljava/util/ImmutableCollections$SetN;" (.ref w_EMPTY_SET)) (F_size_w_EMPTY_SET : Fld Z h0 w_EMPTY_SET "java/util/ImmutableCollections$SetN" "size" "I" (.int 0)) (E_w_EMPTY_SET : Exa Z h0 w_EMPTY_SET "java/util/ImmutableCollections$SetN") (hcs : ¬ (w_COMPACT_STRINGS = (0 : Int32))) :
    MetFree l x (head1 (Jvm.Cond.code x code maxLocals ret :: ws) room_1) (fun a U => a = #[(.long q1), (.int p2), (.int p3), (.int p4), (.int p5)] ∧ Z.Warmed39 U.vm ∧ U.heap = h0 ∧ CHv Z own_EL U.vm h0) (fun _ _ _ _ _ => True) (fun _ U o U' => ∃ v L, o = .returned v ∧ Q0_all Z q1 p2 p3 p4 p5 w_ALLOW w_DENY w_MESSAGE w_IQ w_PRESENCE_IN w_PRESENCE_OUT w_COMPACT_STRINGS w_EMPTY_SET h0 n0 v U'.heap L ∧ ReturnedEndW U o U' L room_1.cells room_1.slots) := by
  refine MetFree.of_bodySF (plainFor_of_name pn_0) hisR ?_
  intro p e s m args below meth c s₁ Bd hml0 hP hK
  obtain ⟨rfl, hZ, hh, H0⟩ := hP
  have C0 := CHr.refl H0
  have hx := Bd.exec
  have hby := Bd.bytes
  have hml : c.maxLocals = 17 := hml0
  have hown : s.vm.findClass "com/example/stanza_filter/stanzafilter/engine/PrivacyItemGroupPinLaw" = some m.cls := findClass_of_methodNamed Bd.named
  have hnm := (name_of_methodNamed Bd.named Bd.method).1
  have X0 : Stand p l e room_1 s m #[(.long q1), (.int p2), (.int p3), (.int p4), (.int p5)] below meth c s₁ [] 0 0 := Stand.of_body Bd
  have e0 : s₁.heap = h0 := by rw [← hh, Bd.state]; rfl
  have N0 := Fr.nil n0
  have pre0 : ∀ t, Steps p.tables e below (s₁.setTop (mkF m 0 #[.val (.long q1), .second, .val (.int p2), .val (.int p3), .val (.int p4), .val (.int p5), .unset, .unset, .unset, .unset, .unset, .unset, .unset, .unset, .unset, .unset, .unset] [])) t → Steps p.tables e below (s₁.setTop (entryFrame m #[(.long q1), (.int p2), (.int p3), (.int p4), (.int p5)] maxLocals)) t := fun t k => castTop (by first | (simp [entryFrame, mkF, argsToLocals, Value.category, maxLocals]; done) | rfl) k
  obtain ⟨ord, hord⟩ : ∃ z, (q1 &&& (4294967295 : Int64)) = z := ⟨_, rfl⟩
  have ordm : ord.toInt = q1.toInt % (2 ^ 32 : Nat) := by rw [← hord]; exact c_maskL q1 4294967295 32 (by decide) (by decide)
  have hsm : (p2 &&& (1 : Int32)).toInt = p2.toInt % (2 ^ 1 : Nat) := c_mask p2 1 1 (by decide) (by decide)
  have PA : ∃ (T' : State) (act : Addr), Stand p l e room_1 s m #[(.long q1), (.int p2), (.int p3), (.int p4), (.int p5)] below meth c T' [] 0 0 ∧ T'.heap = h0 ∧ ∀ target, Steps p.tables e below (T'.setTop (mkF m 24 #[.val (.long q1), .second, .val (.int p2), .val (.int p3), .val (.int p4), .val (.int p5), .val (.long ord), .second, .val (.ref act), .unset, .unset, .unset, .unset, .unset, .unset, .unset, .unset] [])) target → Steps p.tables e below (s₁.setTop (mkF m 0 #[.val (.long q1), .second, .val (.int p2), .val (.int p3), .val (.int p4), .val (.int p5), .unset, .unset, .unset, .unset, .unset, .unset, .unset, .unset, .unset, .unset, .unset] [])) target := by
    rcases own_split2 (x := p2 &&& (1 : Int32)) (by omega) (by omega) with h | h
    · obtain ⟨T', X', e', st'⟩ := pc0_A0 q1 p2 p3 p4 p5 ord w_ALLOW X0 hx hZ hw hby hml hown e0 Z0 N0 hord h S_ALLOW
      exact ⟨T', w_ALLOW, X', e', st'⟩
    · obtain ⟨T', X', e', st'⟩ := pc0_A1 q1 p2 p3 p4 p5 ord w_DENY X0 hx hZ hw hby hml hown e0 Z0 N0 hord h S_DENY
      exact ⟨T', w_DENY, X', e', st'⟩
  obtain ⟨T1, act, X1, e1, st1⟩ := PA
  obtain ⟨sc, hsc⟩ : ∃ z, (((p2.toUInt32 >>> ((1 : Int32) &&& 31).toUInt32).toInt32) &&& (7 : Int32)) = z := ⟨_, rfl⟩
  have scm : sc.toInt = ((p2.toUInt32 >>> ((1 : Int32) &&& 31).toUInt32).toInt32).toInt % (2 ^ 3 : Nat) := by rw [← hsc]; exact c_mask _ 7 3 (by decide) (by decide)
  have PB : ∃ (T' : State) (scv : Value), (scv = .null ∨ ∃ b, scv = .ref b) ∧ Stand p l e room_1 s m #[(.long q1), (.int p2), (.int p3), (.int p4), (.int p5)] below meth c T' [] 0 0 ∧ T'.heap = h0 ∧ ∀ target, Steps p.tables e below (T'.setTop (mkF m 87 #[.val (.long q1), .second, .val (.int p2), .val (.int p3), .val (.int p4), .val (.int p5), .val (.long ord), .second, .val (.ref act), .val (.int sc), .val scv, .unset, .unset, .unset, .unset, .unset, .unset] [])) target → Steps p.tables e below (T1.setTop (mkF m 24 #[.val (.long q1), .second, .val (.int p2), .val (.int p3), .val (.int p4), .val (.int p5), .val (.long ord), .second, .val (.ref act), .unset, .unset, .unset, .unset, .unset, .unset, .unset, .unset] [])) target := by
    rcases (by omega : sc.toInt = 0 ∨ sc.toInt = 1 ∨ sc.toInt = 2 ∨ sc.toInt = 3 ∨ 3 < sc.toInt) with h | h | h | h | h
    · obtain rfl : sc = (0 : Int32) := Int32.toInt_inj.mp (h.trans (by decide))
      obtain ⟨T', X', e', st'⟩ := pc0_B0 q1 p2 p3 p4 p5 ord act w_MESSAGE X1 hx hZ hw hby hml hown e1 Z0 N0 hsc S_MESSAGE
      exact ⟨T', .ref w_MESSAGE, Or.inr ⟨_, rfl⟩, X', e', st'⟩
    · obtain rfl : sc = (1 : Int32) := Int32.toInt_inj.mp (h.trans (by decide))
      obtain ⟨T', X', e', st'⟩ := pc0_B1 q1 p2 p3 p4 p5 ord act w_IQ X1 hx hZ hw hby hml hown e1 Z0 N0 hsc S_IQ
      exact ⟨T', .ref w_IQ, Or.inr ⟨_, rfl⟩, X', e', st'⟩
    · obtain rfl : sc = (2 : Int32) := Int32.toInt_inj.mp (h.trans (by decide))
      obtain ⟨T', X', e', st'⟩ := pc0_B2 q1 p2 p3 p4 p5 ord act w_PRESENCE_IN X1 hx hZ hw hby hml hown e1 Z0 N0 hsc S_PRESENCE_IN
      exact ⟨T', .ref w_PRESENCE_IN, Or.inr ⟨_, rfl⟩, X', e', st'⟩
    · obtain rfl : sc = (3 : Int32) := Int32.toInt_inj.mp (h.trans (by decide))
      obtain ⟨T', X', e', st'⟩ := pc0_B3 q1 p2 p3 p4 p5 ord act w_PRESENCE_OUT X1 hx hZ hw hby hml hown e1 Z0 N0 hsc S_PRESENCE_OUT
      exact ⟨T', .ref w_PRESENCE_OUT, Or.inr ⟨_, rfl⟩, X', e', st'⟩
    · obtain ⟨T', X', e', st'⟩ := pc0_B4 q1 p2 p3 p4 p5 ord act sc X1 hx hZ hw hby hml hown e1 Z0 N0 hsc (own_igt (by decide) h)
      exact ⟨T', .null, Or.inl rfl, X', e', st'⟩
  obtain ⟨T2, scv, hscv, X2, e2, st2⟩ := PB
  obtain ⟨x0, hx0⟩ : ∃ z, ((p3 &&& (255 : Int32)).toUInt32.toUInt16.toUInt32.toInt32) = z := ⟨_, rfl⟩
  have xm0 : x0.toInt = p3.toInt % (2 ^ 8 : Nat) := by rw [← hx0, i2c_mask]; exact c_mask _ 255 8 (by decide) (by decide)
  have hlo_x0 : (-1 : Int32) < x0 := own_igt (z := -1) (by decide) (by omega)
  have hhi_x0 : x0 < (256 : Int32) := own_ilt (z := 256) (by decide) (by omega)
  obtain ⟨x1, hx1⟩ : ∃ z, ((p4 &&& (255 : Int32)).toUInt32.toUInt16.toUInt32.toInt32) = z := ⟨_, rfl⟩
  have xm1 : x1.toInt = p4.toInt % (2 ^ 8 : Nat) := by rw [← hx1, i2c_mask]; exact c_mask _ 255 8 (by decide) (by decide)
  have hlo_x1 : (-1 : Int32) < x1 := own_igt (z := -1) (by decide) (by omega)
  have hhi_x1 : x1 < (256 : Int32) := own_ilt (z := 256) (by decide) (by omega)
  obtain ⟨x2, hx2⟩ : ∃ z, ((p5 &&& (255 : Int32)).toUInt32.toUInt16.toUInt32.toInt32) = z := ⟨_, rfl⟩
  have xm2 : x2.toInt = p5.toInt % (2 ^ 8 : Nat) := by rw [← hx2, i2c_mask]; exact c_mask _ 255 8 (by decide) (by decide)
  have hlo_x2 : (-1 : Int32) < x2 := own_igt (z := -1) (by decide) (by omega)
  have hhi_x2 : x2 < (256 : Int32) := own_ilt (z := 256) (by decide) (by omega)
  obtain ⟨ln, hln⟩ : ∃ z, (((p2.toUInt32 >>> ((4 : Int32) &&& 31).toUInt32).toInt32) &&& (3 : Int32)) = z := ⟨_, rfl⟩
  have lnm : ln.toInt = ((p2.toUInt32 >>> ((4 : Int32) &&& 31).toUInt32).toInt32).toInt % (2 ^ 2 : Nat) := by rw [← hln]; exact c_mask _ 3 2 (by decide) (by decide)
  have PC : ∃ (T' : State) (h' : Heap) (L' : List Loc) (vm' : Vm) (k' : Nat) (o9 : Addr), Stand p l e room_1 (s.setVm vm') m #[(.long q1), (.int p2), (.int p3), (.int p4), (.int p5)] below meth c T' L' 4 10 ∧ T'.heap = h' ∧ Keep h0 h' [] ∧ Fr n0 L' ∧ s.Since vm' k' ∧ k' ≤ h'.size ∧ Z.Warmed39 (s.setVm vm').vm ∧ (s.setVm vm').vm.findClass "com/example/stanza_filter/stanzafilter/engine/PrivacyItemGroupPinLaw" = some m.cls ∧ Exa Z h' o9 "java/lang/String" ∧ ∀ target, Steps p.tables e below (T'.setTop (mkF m 133 #[.val (.long q1), .second, .val (.int p2), .val (.int p3), .val (.int p4), .val (.int p5), .val (.long ord), .second, .val (.ref act), .val (.int sc), .val scv, .val (.int ln), .val (.int x0), .val (.int x1), .val (.int x2), .val (.ref o9), .unset] [])) target → Steps p.tables e below (T2.setTop (mkF m 87 #[.val (.long q1), .second, .val (.int p2), .val (.int p3), .val (.int p4), .val (.int p5), .val (.long ord), .second, .val (.ref act), .val (.int sc), .val scv, .unset, .unset, .unset, .unset, .unset, .unset] [])) target := by
    rcases own_split4 (x := ln) (by omega) (by omega) with rfl | rfl | rfl | rfl
    · obtain ⟨T', h', L', vm', k', o9, X', e', K', N', hS', hk', hZ', hown', -, E', st'⟩ := pc0_C0 q1 p2 p3 p4 p5 ord act sc scv x0 x1 x2 X2 hx hZ hw hby hml hown e2 Z0 N0 H0 hln hx0 hx1 hx2
      exact ⟨T', h', L', vm', k', o9, X', e', K', N', hS', hk', hZ', hown', E', st'⟩
    · obtain ⟨T', h', L', vm', k', o9, X', e', K', N', hS', hk', hZ', hown', -, E', st'⟩ := pc0_C1 q1 p2 p3 p4 p5 ord act sc scv x0 x1 x2 w_COMPACT_STRINGS X2 hx hZ hw hby hml hown e2 Z0 N0 hln hx0 hx1 hx2 hlo_x0 hhi_x0 S_COMPACT_STRINGS hcs
      exact ⟨T', h', L', vm', k', o9, X', e', K', N', hS', hk', hZ', hown', E', st'⟩
    · obtain ⟨T', h', L', vm', k', o9, X', e', K', N', hS', hk', hZ', hown', -, E', st'⟩ := pc0_C2 q1 p2 p3 p4 p5 ord act sc scv x0 x1 x2 w_COMPACT_STRINGS X2 hx hZ hw hby hml hown e2 Z0 N0 hln hx0 hx1 hx2 hlo_x0 hhi_x0 hlo_x1 hhi_x1 S_COMPACT_STRINGS hcs
      exact ⟨T', h', L', vm', k', o9, X', e', K', N', hS', hk', hZ', hown', E', st'⟩
    · obtain ⟨T', h', L', vm', k', o9, X', e', K', N', hS', hk', hZ', hown', -, E', st'⟩ := pc0_C3 q1 p2 p3 p4 p5 ord act sc scv x0 x1 x2 w_COMPACT_STRINGS X2 hx hZ hw hby hml hown e2 Z0 N0 hln hx0 hx1 hx2 hlo_x0 hhi_x0 hlo_x1 hhi_x1 hlo_x2 hhi_x2 S_COMPACT_STRINGS hcs
      exact ⟨T', h', L', vm', k', o9, X', e', K', N', hS', hk', hZ', hown', E', st'⟩
  obtain ⟨T3, h3, L3, vm3, k3, o9, X3, e3, K3, N3, hS3, hk3, hZ3, hown3, E3, st3⟩ := PC
  have g1 : (0 : Int64).toInt = 0 := by decide
  have g2 : (4294967295 : Int64).toInt = 4294967295 := by decide
  have hc16 : ¬ ((lcmpW ord (0 : Int64)) < (0 : Int32)) := fun z => by
    have z2 := (lw_lt _ _).mp z
    rw [Int64.lt_iff_toInt_lt, g1] at z2
    omega
  have hc25 : ¬ ((0 : Int32) < (lcmpW ord (4294967295 : Int64))) := fun z => by
    have z2 := (lw_gt _ _).mp z
    rw [Int64.lt_iff_toInt_lt, g2] at z2
    omega
  have PD : ∃ (T' : State) (L' : List Loc) (Ls : Array Slot) (vm' : Vm) (k' : Nat), Stand p l e room_1 (s.setVm vm') m #[(.long q1), (.int p2), (.int p3), (.int p4), (.int p5)] below meth c T' L' 9 68 ∧ Fr n0 L' ∧ s.Since vm' k' ∧ k' ≤ T'.heap.size ∧ ∀ target, Steps p.tables e below (T'.setTop (mkF m 217 Ls [(.int 1)])) target → Steps p.tables e below (T3.setTop (mkF m 133 #[.val (.long q1), .second, .val (.int p2), .val (.int p3), .val (.int p4), .val (.int p5), .val (.long ord), .second, .val (.ref act), .val (.int sc), .val scv, .val (.int ln), .val (.int x0), .val (.int x1), .val (.int x2), .val (.ref o9), .unset] [])) target := by
    rcases hscv with rfl | ⟨scr, rfl⟩
    · exact pc0_D0 q1 p2 p3 p4 p5 ord act sc ln x0 x1 x2 o9 w_EMPTY_SET X3 hx hZ3 hw hby hml hown3 e3 (Nat.le_trans Z0 K3.1) N3 hS3 hk3 E3 (own_sta_keep S_EMPTY_SET K3) hc16 hc25 (F_size_w_EMPTY_SET.keep K3 nin0) (E_w_EMPTY_SET.keep K3)
    · exact pc0_D1 q1 p2 p3 p4 p5 ord act sc scr ln x0 x1 x2 o9 w_EMPTY_SET X3 hx hZ3 hw hby hml hown3 e3 (Nat.le_trans Z0 K3.1) N3 hS3 hk3 E3 (own_sta_keep S_EMPTY_SET K3) hc16 hc25 (F_size_w_EMPTY_SET.keep K3 nin0) (E_w_EMPTY_SET.keep K3)
  obtain ⟨T4, L4, Ls, vm4, k4, X4, N4, hS4, hk4, st4⟩ := PD
  obtain ⟨fs, hr, hrun, hended, hend⟩ := Stand.leaveW (s := s) X4 (v := some (.int 1)) hS4 hk4 (fun h => by rw [Bd.returns] at h; cases h)
  refine ⟨_, _, pre0 _ ?_, hrun, hended, _, _, rfl, ?_, hend.1, hend.2.1, hend.2.2.1, hend.2.2.2.mono (by decide) (by decide)⟩
  · refine st1 _ ?_
    refine st2 _ ?_
    refine st3 _ ?_
    refine st4 _ ?_
    exact retN X4 hx (t := .boolean) Bd.returns (by simp) (hb hby at_217) hr
  · exact ⟨rfl, N4, trivial⟩
set_option maxRecDepth 65536 in
set_option maxHeartbeats 40000000 in
theorem comes_1 {Post : Tables → Env → Array Value → State → Outcome → State → Prop} (hpost : ∀ tb e args s v u, (limb_1_1.after args s (.returned v) u = true ∧ limb_1_2.after args s (.returned v) u = true ∧ True) → ReturnedEndW s (.returned v) u (Jvm.fieldLocs frame_1_writes args s ++ Jvm.arrayLocs frame_1_arrays args s ++ Jvm.staticLocs frame_1_statics s) 24 3200 → Post tb e args s (.returned v) u) :
    ArmFor flags0 classFile x code maxLocals ret World_1 tables_1 room_1 Calls_1 rest_1 Pre_1 Post := by
  intro l hfl _ _ p e ha hc hk s m args below hf hA hF happ hP
  obtain ⟨hcalls, hrest, hpre⟩ := hP
  obtain ⟨-, -, -, hnamed, -, -, -, hat⟩ := (Spec.applies_iff hf).mp happ
  obtain ⟨hg, hn⟩ := and_e (Cond.before_iff.mp (show (Jvm.Cond.and given_1 narrow_1).before args s = true from hpre))
  obtain ⟨g1a, g1b⟩ := and_e hg
  obtain ⟨g2a, g2b⟩ := and_e g1b
  obtain ⟨g3a, g3b⟩ := and_e g2b
  obtain ⟨g4a, g4b⟩ := and_e g3b
  obtain ⟨g5a, g5b⟩ := and_e g4b
  obtain ⟨w0, w1, w2, w3, w4, rfl⟩ : ∃ w0 w1 w2 w3 w4 : Value, args = #[w0, w1, w2, w3, w4] := by
    have hs : args.size = 5 := by simpa [Cond.value, given_1] using g1a
    obtain ⟨L⟩ := args
    match L, hs with
    | [w0, w1, w2, w3, w4], _ => exact ⟨w0, w1, w2, w3, w4, rfl⟩
  have hw := fun d (hd : d ∈ tables_1) => atoms_spec (ws := Jvm.Cond.code x code maxLocals ret :: tables_1) hat d (List.mem_cons_of_mem _ hd)
  have hfit : Fit s := fun {y c} hc i hi => by
    obtain ⟨ha, rfl⟩ := Array.getElem?_eq_some_iff.mp hc
    have q := List.all_eq_true.mp ((Array.all_eq_true_iff_forall_mem.mp hF) _ (Array.getElem_mem ha)) i (List.mem_range.mpr hi)
    simpa [Array.getElem?_eq_getElem hi] using q
  obtain ⟨i0, ei0⟩ := isL_v g2a
  obtain rfl : w0 = (.long i0) := Option.some.inj ei0
  obtain ⟨i1, ei1⟩ := is_v g3a
  obtain rfl : w1 = (.int i1) := Option.some.inj ei1
  obtain ⟨i2, ei2⟩ := is_v g4a
  obtain rfl : w2 = (.int i2) := Option.some.inj ei2
  obtain ⟨i3, ei3⟩ := is_v g5a
  obtain rfl : w3 = (.int i3) := Option.some.inj ei3
  obtain ⟨i4, ei4⟩ := is_v g5b
  obtain rfl : w4 = (.int i4) := Option.some.inj ei4
  obtain ⟨g6a, g6b⟩ := and_e hn
  obtain ⟨g7a, g7b⟩ := and_e g6b
  obtain ⟨g8a, g8b⟩ := and_e g7b
  obtain ⟨g9a, g9b⟩ := and_e g8b
  obtain ⟨g10a, g10b⟩ := and_e g9b
  obtain ⟨hsets, hown0⟩ := atoms_of _ (rest_1_c_eq ▸ (show rest_1_c.before _ s = true from hrest))
  obtain ⟨w_ALLOW, ev_ALLOW⟩ := exa_v g6a
  have E_w_ALLOW : Exa s s.heap w_ALLOW "com/example/stanza_filter/stanzafilter/engine/Action" := Exa.start ev_ALLOW g6a
  have S_ALLOW : Sta s s.heap "com/example/stanza_filter/stanzafilter/engine/Action" "ALLOW" "Lcom/example/stanza_filter/stanzafilter/engine/Action;" (.ref w_ALLOW) := Sta.start ev_ALLOW (Or.inr ⟨(hw _ (List.mem_of_getElem? (i := 2) rfl)), (hw _ (List.mem_of_getElem? (i := 3) rfl))⟩)
  obtain ⟨w_IQ, ev_IQ⟩ := exa_v g7a
  have E_w_IQ : Exa s s.heap w_IQ "com/example/stanza_filter/stanzafilter/engine/Scope" := Exa.start ev_IQ g7a
  have S_IQ : Sta s s.heap "com/example/stanza_filter/stanzafilter/engine/Scope" "IQ" "Lcom/example/stanza_filter/stanzafilter/engine/Scope;" (.ref w_IQ) := Sta.start ev_IQ (Or.inr ⟨(hw _ (List.mem_of_getElem? (i := 5) rfl)), (hw _ (List.mem_of_getElem? (i := 6) rfl))⟩)
  obtain ⟨w_DENY, ev_DENY⟩ := exa_v g8a
  have E_w_DENY : Exa s s.heap w_DENY "com/example/stanza_filter/stanzafilter/engine/Action" := Exa.start ev_DENY g8a
  have S_DENY : Sta s s.heap "com/example/stanza_filter/stanzafilter/engine/Action" "DENY" "Lcom/example/stanza_filter/stanzafilter/engine/Action;" (.ref w_DENY) := Sta.start ev_DENY (Or.inr ⟨(hw _ (List.mem_of_getElem? (i := 2) rfl)), (hw _ (List.mem_of_getElem? (i := 122) rfl))⟩)
  obtain ⟨w_MESSAGE, ev_MESSAGE⟩ := exa_v g9a
  have E_w_MESSAGE : Exa s s.heap w_MESSAGE "com/example/stanza_filter/stanzafilter/engine/Scope" := Exa.start ev_MESSAGE g9a
  have S_MESSAGE : Sta s s.heap "com/example/stanza_filter/stanzafilter/engine/Scope" "MESSAGE" "Lcom/example/stanza_filter/stanzafilter/engine/Scope;" (.ref w_MESSAGE) := Sta.start ev_MESSAGE (Or.inr ⟨(hw _ (List.mem_of_getElem? (i := 5) rfl)), (hw _ (List.mem_of_getElem? (i := 135) rfl))⟩)
  obtain ⟨w_PRESENCE_OUT, ev_PRESENCE_OUT⟩ := exa_v g10a
  have E_w_PRESENCE_OUT : Exa s s.heap w_PRESENCE_OUT "com/example/stanza_filter/stanzafilter/engine/Scope" := Exa.start ev_PRESENCE_OUT g10a
  have S_PRESENCE_OUT : Sta s s.heap "com/example/stanza_filter/stanzafilter/engine/Scope" "PRESENCE_OUT" "Lcom/example/stanza_filter/stanzafilter/engine/Scope;" (.ref w_PRESENCE_OUT) := Sta.start ev_PRESENCE_OUT (Or.inr ⟨(hw _ (List.mem_of_getElem? (i := 5) rfl)), (hw _ (List.mem_of_getElem? (i := 137) rfl))⟩)
  obtain ⟨w_PRESENCE_IN, ev_PRESENCE_IN⟩ := exa_v g10b
  have E_w_PRESENCE_IN : Exa s s.heap w_PRESENCE_IN "com/example/stanza_filter/stanzafilter/engine/Scope" := Exa.start ev_PRESENCE_IN g10b
  have S_PRESENCE_IN : Sta s s.heap "com/example/stanza_filter/stanzafilter/engine/Scope" "PRESENCE_IN" "Lcom/example/stanza_filter/stanzafilter/engine/Scope;" (.ref w_PRESENCE_IN) := Sta.start ev_PRESENCE_IN (Or.inr ⟨(hw _ (List.mem_of_getElem? (i := 5) rfl)), (hw _ (List.mem_of_getElem? (i := 139) rfl))⟩)
  obtain ⟨w_EMPTY_SET, ev1⟩ := exa_v (Cond.before_iff.mp (hsets _ (List.mem_of_getElem? (i := 2) rfl)))
  have E_w_EMPTY_SET : Exa s s.heap w_EMPTY_SET "java/util/ImmutableCollections$SetN" := Exa.start ev1 (Cond.before_iff.mp (hsets _ (List.mem_of_getElem? (i := 2) rfl)))
  have S_EMPTY_SET : Sta s s.heap "java/util/ImmutableCollections" "EMPTY_SET" "Ljava/util/ImmutableCollections$SetN;" (.ref w_EMPTY_SET) := Sta.start ev1 (Or.inl (hsets _ (List.mem_of_getElem? (i := 1) rfl)))
  have F_size_w_EMPTY_SET : Fld s s.heap w_EMPTY_SET "java/util/ImmutableCollections$SetN" "size" "I" (.int (0 : Int32)) := own_fld ev1 (Cond.before_iff.mp (hsets _ (List.mem_of_getElem? (i := 6) rfl)))
  obtain ⟨w_COMPACT_STRINGS, ev2⟩ := is_v (Cond.before_iff.mp (hsets _ (List.mem_of_getElem? (i := 8) rfl)))
  have S_COMPACT_STRINGS : Sta s s.heap "java/lang/String" "COMPACT_STRINGS" "Z" (.int w_COMPACT_STRINGS) := Sta.start ev2 (Or.inl (hsets _ (List.mem_of_getElem? (i := 7) rfl)))
  have hcs : ¬ (w_COMPACT_STRINGS = (0 : Int32)) := gotF (Cond.eq_ints ev2 (Term.int_eval _)) (not_v (Cond.before_iff.mp (hsets _ (List.mem_of_getElem? (i := 9) rfl))))
  have hh : ∀ w ∈ own_EL, Jvm.Lit.constHeld s w.1 w.2 := fun w hw' => by
    obtain rfl : w = ("java/lang/String", 7) := by simpa [own_EL] using hw'
    exact (show call_1_1 _ _ _ _ ∧ True from hcalls).1 ("java/lang/String", 7) (by decide)
  have H0 : CHv s own_EL s.vm s.heap := CHv.start (own_EW hw) hh (show Jvm.Lit.compactW.before _ s = true from (hsets _ (List.mem_of_getElem? (i := 9) rfl))) (hw _ (List.mem_of_getElem? (i := 26) rfl)) (hw _ (List.mem_of_getElem? (i := 12) rfl))
  obtain ⟨n, o, h1, h2, h3, _, L, rfl, ⟨rfl, N, -⟩, hq⟩ := rm0_all l s _ hw tables_1 i0 i1 i2 i3 i4 w_ALLOW w_DENY w_MESSAGE w_IQ w_PRESENCE_IN w_PRESENCE_OUT w_COMPACT_STRINGS w_EMPTY_SET s.heap s.heap.size (Nat.le_refl _) S_ALLOW S_DENY S_MESSAGE S_IQ S_PRESENCE_IN S_PRESENCE_OUT S_COMPACT_STRINGS S_EMPTY_SET F_size_w_EMPTY_SET E_w_EMPTY_SET hcs p e ha hc hk s m _ below hf ((Spec.applies_iff_loose hf).mp happ).1 ⟨rfl, State.Warmed39.refl s, rfl, H0⟩ trivial
  exact ⟨n, _, h1, h2, h3, hpost _ _ _ _ _ _ ⟨Cond.after_iff.mpr rfl, Cond.after_iff.mpr (eq_i res_at (Term.int_eval (1)) rfl), trivial⟩ ⟨hq.1, hq.2.1, hq.2.2.1, (hq.2.2.2.sift fun y hy => Or.inr (N y hy)).mono (by decide) (by decide)⟩⟩
theorem main_1_1 : Claimed_1_1 := comes_1 fun _ _ _ _ _ _ h hF => ⟨h.1, hF⟩
theorem main_1_2 : Claimed_1_2 := comes_1 fun _ _ _ _ _ _ h hF => ⟨h.2.1, hF⟩
end Jvm.Pilot.@@N@@
namespace Jvm.Pilot.@@N@@
open Jvm Jvm.ClassFile Sem Op Lib Jvm.Free Jvm.Stand Jvm.Pilot.@@N@@.Jvm.D
/-! MADE BY PROGRAM (witnessworld.py) out of the Statement's table words and the real class files: 33 classes; the members and pool entries that the words name. The judged class is class 1, her method 1. -/
namespace start1
open Jvm.ClassFile
def u (s : String) : CpInfo := .utf8 (stringToUtf16 s)
/-- a pool by its gaps: so many unusable entries, then the entry; so many at the end -/
def gap : Nat → List CpInfo → List CpInfo
  | 0, r => r
  | n + 1, r => .unusable :: gap n r
def poolList (es : List (Nat × CpInfo)) (last : Nat) : List CpInfo := es.foldr (fun e r => gap e.1 (e.2 :: r)) (gap last [])
def pool (es : List (Nat × CpInfo)) (last : Nat) : Array CpInfo := ⟨poolList es last⟩
def fileOf (pool : Array CpInfo) (this : Nat) (attrs : Array Attribute := #[]) (ms : Array MethodInfo := #[]) (fl : Nat := 33) (sup : Nat := 0) (ifs : Array Nat := #[]) (fds : Array FieldInfo := #[]) : ClassFile where
  minorVersion := 0
  majorVersion := 65
  constantPool := pool
  accessFlags := fl
  thisClass := this
  superClass := sup
  interfaces := ifs
  fields := fds
  methods := ms
  attributes := attrs
def plain (name : String) (sup : Option ClassId) : Class where
  name := name
  kind := .ordinary
  loader := none
  accessFlags := 33
  super := sup
  interfaces := #[]
  cf := none
  fields := #[]
  methods := #[]
  instanceTypes := #[]
  staticTypes := #[]
  resolved := #[]
  callSites := []
  init := .initialized
  statics := none
  mirror := none

def pool0 : Array CpInfo := pool [(5, u "<init>"), (0, u "()V"), (1, .class_ 10), (1, u "java/lang/Object")] 113

def k0c0 : Code := { maxStack := 0, maxLocals := 1, code := object_method_1_code, exceptionTable := #[], attributes := #[] }
def k0m0 : Method := { name := "<init>", desc := "()V", sig := { parameters := [], returnType := none }, accessFlags := 1, code := some k0c0 }
/-- java/lang/Object -/
def k0 : Class := { plain "java/lang/Object" none with
  accessFlags := 33
  interfaces := #[]
  cf := some (fileOf pool0 8 #[] #[{ accessFlags := 1, nameIndex := 5, descriptorIndex := 6, attributes := #[] }] 33 0 #[] #[])
  fields := #[]
  methods := #[k0m0]
  instanceTypes := #[]
  staticTypes := #[]
  resolved := Array.replicate 124 none
  statics := none }

def pool1 : Array CpInfo := pool [(2, .class_ 4), (1, u "java/lang/Object"), (0, u "<init>"), (0, u "()V"), (0, .long 4294967295), (1, .fieldref 10 11), (0, .class_ 12), (0, .nameAndType 13 14), (0, u "com/example/stanza_filter/stanzafilter/engine/Action"), (0, u "ALLOW"), (0, u "Lcom/example/stanza_filter/stanzafilter/engine/Action;"), (0, .fieldref 10 16), (0, .nameAndType 17 14), (0, u "DENY"), (0, .fieldref 19 20), (0, .class_ 21), (0, .nameAndType 22 23), (0, u "com/example/stanza_filter/stanzafilter/engine/Scope"), (0, u "MESSAGE"), (0, u "Lcom/example/stanza_filter/stanzafilter/engine/Scope;"), (0, .fieldref 19 25), (0, .nameAndType 26 23), (0, u "IQ"), (0, .fieldref 19 28), (0, .nameAndType 29 23), (0, u "PRESENCE_IN"), (0, .fieldref 19 31), (0, .nameAndType 32 23), (0, u "PRESENCE_OUT"), (0, .methodref 34 35), (0, .class_ 36), (0, .nameAndType 37 38), (0, u "com/example/stanza_filter/stanzafilter/engine/PrivacyItemGroupPinLaw"), (0, u "makeString"), (0, u "(ICCC)Ljava/lang/String;"), (0, .methodref 40 41), (0, .class_ 42), (0, .nameAndType 43 44), (0, u "com/example/stanza_filter/stanzafilter/engine/PrivacyItem"), (0, u "group"), (0, u "(Ljava/lang/String;Lcom/example/stanza_filter/stanzafilter/engine/Action;J)Lcom/example/stanza_filter/stanzafilter/engine/PrivacyItem;"), (0, .methodref 40 46), (0, .nameAndType 47 48), (0, u "order"), (0, u "()J"), (0, .methodref 40 50), (0, .nameAndType 51 52), (0, u "action"), (0, u "()Lcom/example/stanza_filter/stanzafilter/engine/Action;"), (0, .methodref 40 54), (0, .nameAndType 55 56), (0, u "jid"), (0, u "()Lcom/example/stanza_filter/stanzafilter/engine/Jid;"), (0, .methodref 40 58), (0, .nameAndType 59 60), (0, u "subscription"), (0, u "()Lcom/example/stanza_filter/stanzafilter/engine/Subscription;"), (0, .methodref 40 62), (0, .nameAndType 43 63), (0, u "()Ljava/lang/String;"), (0, .methodref 65 66), (0, .class_ 67), (0, .nameAndType 68 69), (0, u "java/lang/String"), (0, u "equals"), (0, u "(Ljava/lang/Object;)Z"), (0, .methodref 40 71), (0, .nameAndType 72 73), (0, u "covers"), (0, u "(Lcom/example/stanza_filter/stanzafilter/engine/Scope;)Z"), (0, .methodref 40 75), (0, .nameAndType 76 77), (0, u "isBlocklistEntry"), (0, u "()Z"), (0, .methodref 65 79), (0, .nameAndType 5 80), (0, u "([C)V"), (2, u "law"), (0, u "(JIIII)Z")] 3

def k1m0 : Method := { name := "<init>", desc := "()V", sig := { parameters := [], returnType := none }, accessFlags := 1, code := none }
def k1c1 : Code := { maxStack := 4, maxLocals := 17, code := code, exceptionTable := #[], attributes := #[] }
def k1m1 : Method := { name := "law", desc := "(JIIII)Z", sig := { parameters := [.long, .int, .int, .int, .int], returnType := some .boolean }, accessFlags := 9, code := some k1c1 }
def k1c2 : Code := { maxStack := 3, maxLocals := 5, code := method_3_code, exceptionTable := #[], attributes := #[] }
def k1m2 : Method := { name := "makeString", desc := "(ICCC)Ljava/lang/String;", sig := { parameters := [.int, .char, .char, .char], returnType := some (.object "java/lang/String") }, accessFlags := 10, code := some k1c2 }
/-- com/example/stanza_filter/stanzafilter/engine/PrivacyItemGroupPinLaw -/
def k1 : Class := { plain "com/example/stanza_filter/stanzafilter/engine/PrivacyItemGroupPinLaw" (some 0) with
  accessFlags := 49
  interfaces := #[]
  cf := some (fileOf pool1 34 #[] #[{ accessFlags := 1, nameIndex := 5, descriptorIndex := 6, attributes := #[] }, { accessFlags := 9, nameIndex := 83, descriptorIndex := 84, attributes := #[] }, { accessFlags := 10, nameIndex := 37, descriptorIndex := 38, attributes := #[] }] 49 2 #[] #[])
  fields := #[]
  methods := #[k1m0, k1m1, k1m2]
  instanceTypes := #[]
  staticTypes := #[]
  resolved := Array.replicate 88 none
  statics := none }

def pool2 : Array CpInfo := pool [(1, .class_ 2), (0, u "java/lang/constant/Constable"), (0, .class_ 4), (0, u "java/lang/Object")] 6

/-- java/lang/constant/Constable -/
def k2 : Class := { plain "java/lang/constant/Constable" (some 0) with
  accessFlags := 1537
  interfaces := #[]
  cf := some (fileOf pool2 1 #[] #[] 1537 3 #[] #[])
  fields := #[]
  methods := #[]
  instanceTypes := #[]
  staticTypes := #[]
  resolved := Array.replicate 11 none
  statics := none }

def pool3 : Array CpInfo := pool [(1, .class_ 2), (0, u "java/lang/Comparable"), (0, .class_ 4), (0, u "java/lang/Object")] 7

/-- java/lang/Comparable -/
def k3 : Class := { plain "java/lang/Comparable" (some 0) with
  accessFlags := 1537
  interfaces := #[]
  cf := some (fileOf pool3 1 #[] #[] 1537 3 #[] #[])
  fields := #[]
  methods := #[]
  instanceTypes := #[]
  staticTypes := #[]
  resolved := Array.replicate 12 none
  statics := none }

def pool4 : Array CpInfo := pool [(1, .class_ 2), (0, u "java/io/Serializable"), (0, .class_ 4), (0, u "java/lang/Object")] 2

/-- java/io/Serializable -/
def k4 : Class := { plain "java/io/Serializable" (some 0) with
  accessFlags := 1537
  interfaces := #[]
  cf := some (fileOf pool4 1 #[] #[] 1537 3 #[] #[])
  fields := #[]
  methods := #[]
  instanceTypes := #[]
  staticTypes := #[]
  resolved := Array.replicate 7 none
  statics := none }

def pool5 : Array CpInfo := pool [(2, .class_ 4), (1, u "java/lang/Enum"), (0, u "name"), (0, u "Ljava/lang/String;"), (2, u "ordinal"), (0, u "I"), (1, .class_ 14), (1, u "java/lang/Object"), (4, u "hash"), (86, .class_ 108), (1, u "java/lang/Enum$EnumDesc"), (2, .class_ 112), (0, u "java/lang/constant/Constable"), (0, .class_ 114), (0, u "java/lang/Comparable"), (0, .class_ 116), (0, u "java/io/Serializable")] 87

/-- java/lang/Enum -/
def k5 : Class := { plain "java/lang/Enum" (some 0) with
  accessFlags := 1057
  interfaces := #[2, 3, 4]
  cf := some (fileOf pool5 2 #[.nestMembers #[106]] #[] 1057 12 #[111, 113, 115] #[{ accessFlags := 18, nameIndex := 5, descriptorIndex := 6, attributes := #[] }, { accessFlags := 18, nameIndex := 9, descriptorIndex := 10, attributes := #[] }, { accessFlags := 2, nameIndex := 19, descriptorIndex := 10, attributes := #[] }])
  fields := #[{ name := "name", type := (.object "java/lang/String"), accessFlags := 18, slot := 0, constantValue := 0 }, { name := "ordinal", type := .int, accessFlags := 18, slot := 1, constantValue := 0 }, { name := "hash", type := .int, accessFlags := 2, slot := 2, constantValue := 0 }]
  methods := #[]
  instanceTypes := #[(.object "java/lang/String"), .int, .int]
  staticTypes := #[]
  resolved := Array.replicate 204 none
  statics := none }

def pool6 : Array CpInfo := pool [(1, .class_ 2), (0, u "com/example/stanza_filter/stanzafilter/engine/Action"), (2, u "ALLOW"), (0, u "Lcom/example/stanza_filter/stanzafilter/engine/Action;"), (2, u "DENY"), (2, u "$VALUES"), (0, u "[Lcom/example/stanza_filter/stanzafilter/engine/Action;"), (6, .class_ 22), (1, u "java/lang/Enum")] 24

/-- com/example/stanza_filter/stanzafilter/engine/Action -/
def k6 : Class := { plain "com/example/stanza_filter/stanzafilter/engine/Action" (some 5) with
  accessFlags := 16433
  interfaces := #[]
  cf := some (fileOf pool6 1 #[] #[] 16433 20 #[] #[{ accessFlags := 16409, nameIndex := 5, descriptorIndex := 6, attributes := #[] }, { accessFlags := 16409, nameIndex := 9, descriptorIndex := 6, attributes := #[] }, { accessFlags := 4122, nameIndex := 12, descriptorIndex := 13, attributes := #[] }])
  fields := #[{ name := "ALLOW", type := (.object "com/example/stanza_filter/stanzafilter/engine/Action"), accessFlags := 16409, slot := 0, constantValue := 0 }, { name := "DENY", type := (.object "com/example/stanza_filter/stanzafilter/engine/Action"), accessFlags := 16409, slot := 1, constantValue := 0 }, { name := "$VALUES", type := (.array (.object "com/example/stanza_filter/stanzafilter/engine/Action")), accessFlags := 4122, slot := 2, constantValue := 0 }]
  methods := #[]
  instanceTypes := #[(.object "java/lang/String"), .int, .int]
  staticTypes := #[(.object "com/example/stanza_filter/stanzafilter/engine/Action"), (.object "com/example/stanza_filter/stanzafilter/engine/Action"), (.array (.object "com/example/stanza_filter/stanzafilter/engine/Action"))]
  resolved := Array.replicate 47 none
  statics := some 0 }

def pool7 : Array CpInfo := pool [(1, .class_ 2), (0, u "com/example/stanza_filter/stanzafilter/engine/Scope"), (2, u "MESSAGE"), (0, u "Lcom/example/stanza_filter/stanzafilter/engine/Scope;"), (2, u "IQ"), (2, u "PRESENCE_IN"), (2, u "PRESENCE_OUT"), (2, u "$VALUES"), (0, u "[Lcom/example/stanza_filter/stanzafilter/engine/Scope;"), (6, .class_ 28), (1, u "java/lang/Enum")] 26

/-- com/example/stanza_filter/stanzafilter/engine/Scope -/
def k7 : Class := { plain "com/example/stanza_filter/stanzafilter/engine/Scope" (some 5) with
  accessFlags := 16433
  interfaces := #[]
  cf := some (fileOf pool7 1 #[] #[] 16433 26 #[] #[{ accessFlags := 16409, nameIndex := 5, descriptorIndex := 6, attributes := #[] }, { accessFlags := 16409, nameIndex := 9, descriptorIndex := 6, attributes := #[] }, { accessFlags := 16409, nameIndex := 12, descriptorIndex := 6, attributes := #[] }, { accessFlags := 16409, nameIndex := 15, descriptorIndex := 6, attributes := #[] }, { accessFlags := 4122, nameIndex := 18, descriptorIndex := 19, attributes := #[] }])
  fields := #[{ name := "MESSAGE", type := (.object "com/example/stanza_filter/stanzafilter/engine/Scope"), accessFlags := 16409, slot := 0, constantValue := 0 }, { name := "IQ", type := (.object "com/example/stanza_filter/stanzafilter/engine/Scope"), accessFlags := 16409, slot := 1, constantValue := 0 }, { name := "PRESENCE_IN", type := (.object "com/example/stanza_filter/stanzafilter/engine/Scope"), accessFlags := 16409, slot := 2, constantValue := 0 }, { name := "PRESENCE_OUT", type := (.object "com/example/stanza_filter/stanzafilter/engine/Scope"), accessFlags := 16409, slot := 3, constantValue := 0 }, { name := "$VALUES", type := (.array (.object "com/example/stanza_filter/stanzafilter/engine/Scope")), accessFlags := 4122, slot := 4, constantValue := 0 }]
  methods := #[]
  instanceTypes := #[(.object "java/lang/String"), .int, .int]
  staticTypes := #[(.object "com/example/stanza_filter/stanzafilter/engine/Scope"), (.object "com/example/stanza_filter/stanzafilter/engine/Scope"), (.object "com/example/stanza_filter/stanzafilter/engine/Scope"), (.object "com/example/stanza_filter/stanzafilter/engine/Scope"), (.array (.object "com/example/stanza_filter/stanzafilter/engine/Scope"))]
  resolved := Array.replicate 55 none
  statics := some 1 }

def pool8 : Array CpInfo := pool [(2, .class_ 4), (1, u "java/lang/CharSequence"), (42, .class_ 48), (0, u "java/lang/CharSequence$1CodePointIterator"), (10, .class_ 60), (0, u "java/lang/CharSequence$1CharIterator"), (5, .class_ 67), (0, u "java/lang/Object")] 63

/-- java/lang/CharSequence -/
def k8 : Class := { plain "java/lang/CharSequence" (some 0) with
  accessFlags := 1537
  interfaces := #[]
  cf := some (fileOf pool8 2 #[.nestMembers #[47, 59]] #[] 1537 66 #[] #[])
  fields := #[]
  methods := #[]
  instanceTypes := #[]
  staticTypes := #[]
  resolved := Array.replicate 131 none
  statics := none }

def pool9 : Array CpInfo := pool [(1, .class_ 2), (0, u "java/lang/constant/ConstantDesc"), (0, .class_ 4), (0, u "java/lang/Object")] 32

/-- java/lang/constant/ConstantDesc -/
def k9 : Class := { plain "java/lang/constant/ConstantDesc" (some 0) with
  accessFlags := 1537
  interfaces := #[]
  cf := some (fileOf pool9 1 #[] #[] 1537 3 #[] #[])
  fields := #[]
  methods := #[]
  instanceTypes := #[]
  staticTypes := #[]
  resolved := Array.replicate 37 none
  statics := none }

def pool10 : Array CpInfo := pool [(1, .methodref 2 3), (0, .class_ 4), (0, .nameAndType 5 6), (0, u "java/lang/Object"), (0, u "<init>"), (0, u "()V"), (0, .string 8), (0, u ""), (0, .fieldref 10 11), (0, .class_ 12), (0, .nameAndType 13 14), (0, u "java/lang/String"), (0, u "value"), (0, u "[B"), (0, .fieldref 10 16), (0, .nameAndType 17 18), (0, u "coder"), (0, u "B"), (2, u "hash"), (0, u "I"), (2, u "hashIsZero"), (0, u "Z"), (0, .methodref 10 28), (0, .nameAndType 5 29), (0, u "([CIILjava/lang/Void;)V"), (8, .fieldref 10 39), (0, .nameAndType 40 26), (0, u "COMPACT_STRINGS"), (1, .class_ 44), (1, u "java/lang/StringUTF16"), (0, u "compress"), (1, .methodref 42 48), (0, .nameAndType 49 50), (0, u "coderFromArrayLen"), (0, u "([BI)B"), (126, .methodref 42 178), (0, .nameAndType 45 179), (0, u "([CII)[B"), (363, u "equals"), (29, u "(Ljava/lang/Object;)Z"), (1, .class_ 576), (0, u "java/lang/CharSequence"), (22, u "CASE_INSENSITIVE_ORDER"), (0, u "Ljava/util/Comparator;"), (409, u "([C)V"), (90, u "serialPersistentFields"), (0, u "[Ljava/io/ObjectStreamField;"), (0, .class_ 1104), (0, u "java/lang/String$CaseInsensitiveComparator"), (1, .class_ 1107), (0, u "java/io/Serializable"), (0, .class_ 1109), (0, u "java/lang/Comparable"), (0, .class_ 1111), (0, u "java/lang/constant/Constable"), (0, .class_ 1113), (0, u "java/lang/constant/ConstantDesc"), (2, u "serialVersionUID"), (0, u "J"), (3, u "REPL"), (0, u "C"), (2, u "LATIN1"), (1, u "UTF16")] 323

def k10m0 : Method := { name := "<init>", desc := "()V", sig := { parameters := [], returnType := none }, accessFlags := 1, code := none }
def k10c1 : Code := { maxStack := 5, maxLocals := 2, code := jdk_42_method_3_code, exceptionTable := #[], attributes := #[] }
def k10m1 : Method := { name := "<init>", desc := "([C)V", sig := { parameters := [(.array .char)], returnType := none }, accessFlags := 1, code := some k10c1 }
def k10c2 : Code := { maxStack := 2, maxLocals := 3, code := jdk_42_method_66_code, exceptionTable := #[], attributes := #[] }
def k10m2 : Method := { name := "equals", desc := "(Ljava/lang/Object;)Z", sig := { parameters := [(.object "java/lang/Object")], returnType := some .boolean }, accessFlags := 1, code := some k10c2 }
def k10c3 : Code := { maxStack := 4, maxLocals := 6, code := jdk_42_method_149_code, exceptionTable := #[], attributes := #[] }
def k10m3 : Method := { name := "<init>", desc := "([CIILjava/lang/Void;)V", sig := { parameters := [(.array .char), .int, .int, (.object "java/lang/Void")], returnType := none }, accessFlags := 2, code := some k10c3 }
/-- java/lang/String -/
def k10 : Class := { plain "java/lang/String" (some 0) with
  accessFlags := 49
  interfaces := #[4, 3, 8, 2, 9]
  cf := some (fileOf pool10 10 #[.nestMembers #[1103]] #[{ accessFlags := 1, nameIndex := 5, descriptorIndex := 6, attributes := #[] }, { accessFlags := 1, nameIndex := 5, descriptorIndex := 1010, attributes := #[] }, { accessFlags := 1, nameIndex := 543, descriptorIndex := 573, attributes := #[] }, { accessFlags := 2, nameIndex := 5, descriptorIndex := 29, attributes := #[] }] 49 2 #[1106, 1108, 575, 1110, 1112] #[{ accessFlags := 18, nameIndex := 13, descriptorIndex := 14, attributes := #[] }, { accessFlags := 18, nameIndex := 17, descriptorIndex := 18, attributes := #[] }, { accessFlags := 2, nameIndex := 21, descriptorIndex := 22, attributes := #[] }, { accessFlags := 2, nameIndex := 25, descriptorIndex := 26, attributes := #[] }, { accessFlags := 26, nameIndex := 1116, descriptorIndex := 1117, attributes := #[] }, { accessFlags := 24, nameIndex := 40, descriptorIndex := 26, attributes := #[] }, { accessFlags := 26, nameIndex := 1101, descriptorIndex := 1102, attributes := #[] }, { accessFlags := 26, nameIndex := 1121, descriptorIndex := 1122, attributes := #[] }, { accessFlags := 25, nameIndex := 599, descriptorIndex := 600, attributes := #[] }, { accessFlags := 24, nameIndex := 1125, descriptorIndex := 18, attributes := #[] }, { accessFlags := 24, nameIndex := 1127, descriptorIndex := 18, attributes := #[] }])
  fields := #[{ name := "value", type := (.array .byte), accessFlags := 18, slot := 0, constantValue := 0 }, { name := "coder", type := .byte, accessFlags := 18, slot := 1, constantValue := 0 }, { name := "hash", type := .int, accessFlags := 2, slot := 2, constantValue := 0 }, { name := "hashIsZero", type := .boolean, accessFlags := 2, slot := 3, constantValue := 0 }, { name := "serialVersionUID", type := .long, accessFlags := 26, slot := 0, constantValue := 0 }, { name := "COMPACT_STRINGS", type := .boolean, accessFlags := 24, slot := 1, constantValue := 0 }, { name := "serialPersistentFields", type := (.array (.object "java/io/ObjectStreamField")), accessFlags := 26, slot := 2, constantValue := 0 }, { name := "REPL", type := .char, accessFlags := 26, slot := 3, constantValue := 0 }, { name := "CASE_INSENSITIVE_ORDER", type := (.object "java/util/Comparator"), accessFlags := 25, slot := 4, constantValue := 0 }, { name := "LATIN1", type := .byte, accessFlags := 24, slot := 5, constantValue := 0 }, { name := "UTF16", type := .byte, accessFlags := 24, slot := 6, constantValue := 0 }]
  methods := #[k10m0, k10m1, k10m2, k10m3]
  instanceTypes := #[(.array .byte), .byte, .int, .boolean]
  staticTypes := #[.long, .boolean, (.array (.object "java/io/ObjectStreamField")), .char, (.object "java/util/Comparator"), .byte, .byte]
  resolved := Array.replicate 1451 none
  statics := some 2 }

def pool11 : Array CpInfo := pool [(1, .methodref 2 3), (0, .class_ 4), (0, .nameAndType 5 6), (0, u "java/lang/Object"), (0, u "<init>"), (0, u "()V"), (0, .string 8), (0, u "action"), (0, .methodref 10 11), (0, .class_ 12), (0, .nameAndType 13 14), (0, u "java/util/Objects"), (0, u "requireNonNull"), (0, u "(Ljava/lang/Object;Ljava/lang/String;)Ljava/lang/Object;"), (0, .class_ 16), (0, u "com/example/stanza_filter/stanzafilter/engine/PrivacyItem"), (0, .long 4294967295), (10, .fieldref 15 29), (0, .nameAndType 30 31), (0, u "jid"), (0, u "Lcom/example/stanza_filter/stanzafilter/engine/Jid;"), (0, .fieldref 15 33), (0, .nameAndType 34 35), (0, u "group"), (0, u "Ljava/lang/String;"), (0, .fieldref 15 37), (0, .nameAndType 38 39), (0, u "subscription"), (0, u "Lcom/example/stanza_filter/stanzafilter/engine/Subscription;"), (0, .fieldref 15 41), (0, .nameAndType 8 42), (0, u "Lcom/example/stanza_filter/stanzafilter/engine/Action;"), (0, .fieldref 15 44), (0, .nameAndType 45 46), (0, u "order"), (0, u "J"), (0, .fieldref 15 48), (0, .nameAndType 49 50), (0, u "scopes"), (0, u "Ljava/util/Set;"), (0, .string 52), (0, u "value"), (2, .interfaceMethodref 56 57), (0, .class_ 58), (0, .nameAndType 59 60), (0, u "java/util/Set"), (0, u "of"), (0, u "()Ljava/util/Set;"), (0, .methodref 15 62), (0, .nameAndType 5 63), (0, u "(Lcom/example/stanza_filter/stanzafilter/engine/Jid;Ljava/lang/String;Lcom/example/stanza_filter/stanzafilter/engine/Subscription;Lcom/example/stanza_filter/stanzafilter/engine/Action;JLjava/util/Set;)V"), (0, .class_ 65), (0, u "java/lang/String"), (25, .interfaceMethodref 56 92), (0, .nameAndType 93 94), (0, u "isEmpty"), (0, u "()Z"), (20, u "()Lcom/example/stanza_filter/stanzafilter/engine/Subscription;"), (3, u "()Ljava/lang/String;"), (9, u "()Lcom/example/stanza_filter/stanzafilter/engine/Jid;"), (4, u "MAX_ORDER"), (8, u "(Ljava/lang/String;Lcom/example/stanza_filter/stanzafilter/engine/Action;J)Lcom/example/stanza_filter/stanzafilter/engine/PrivacyItem;"), (8, u "isBlocklistEntry"), (0, u "()Lcom/example/stanza_filter/stanzafilter/engine/Action;"), (0, u "()J"), (1, u "covers"), (0, u "(Lcom/example/stanza_filter/stanzafilter/engine/Scope;)Z")] 19

def k11c0 : Code := { maxStack := 4, maxLocals := 8, code := prog_9_method_1_code, exceptionTable := #[], attributes := #[] }
def k11m0 : Method := { name := "<init>", desc := "(Lcom/example/stanza_filter/stanzafilter/engine/Jid;Ljava/lang/String;Lcom/example/stanza_filter/stanzafilter/engine/Subscription;Lcom/example/stanza_filter/stanzafilter/engine/Action;JLjava/util/Set;)V", sig := { parameters := [(.object "com/example/stanza_filter/stanzafilter/engine/Jid"), (.object "java/lang/String"), (.object "com/example/stanza_filter/stanzafilter/engine/Subscription"), (.object "com/example/stanza_filter/stanzafilter/engine/Action"), .long, (.object "java/util/Set")], returnType := none }, accessFlags := 2, code := some k11c0 }
def k11c1 : Code := { maxStack := 9, maxLocals := 4, code := prog_9_method_3_code, exceptionTable := #[], attributes := #[] }
def k11m1 : Method := { name := "group", desc := "(Ljava/lang/String;Lcom/example/stanza_filter/stanzafilter/engine/Action;J)Lcom/example/stanza_filter/stanzafilter/engine/PrivacyItem;", sig := { parameters := [(.object "java/lang/String"), (.object "com/example/stanza_filter/stanzafilter/engine/Action"), .long], returnType := some (.object "com/example/stanza_filter/stanzafilter/engine/PrivacyItem") }, accessFlags := 9, code := some k11c1 }
def k11c2 : Code := { maxStack := 2, maxLocals := 1, code := prog_9_method_8_code, exceptionTable := #[], attributes := #[] }
def k11m2 : Method := { name := "isBlocklistEntry", desc := "()Z", sig := { parameters := [], returnType := some .boolean }, accessFlags := 0, code := some k11c2 }
def k11c3 : Code := { maxStack := 1, maxLocals := 1, code := prog_9_method_9_code, exceptionTable := #[], attributes := #[] }
def k11m3 : Method := { name := "jid", desc := "()Lcom/example/stanza_filter/stanzafilter/engine/Jid;", sig := { parameters := [], returnType := some (.object "com/example/stanza_filter/stanzafilter/engine/Jid") }, accessFlags := 1, code := some k11c3 }
def k11c4 : Code := { maxStack := 1, maxLocals := 1, code := prog_9_method_10_code, exceptionTable := #[], attributes := #[] }
def k11m4 : Method := { name := "group", desc := "()Ljava/lang/String;", sig := { parameters := [], returnType := some (.object "java/lang/String") }, accessFlags := 1, code := some k11c4 }
def k11c5 : Code := { maxStack := 1, maxLocals := 1, code := prog_9_method_11_code, exceptionTable := #[], attributes := #[] }
def k11m5 : Method := { name := "subscription", desc := "()Lcom/example/stanza_filter/stanzafilter/engine/Subscription;", sig := { parameters := [], returnType := some (.object "com/example/stanza_filter/stanzafilter/engine/Subscription") }, accessFlags := 1, code := some k11c5 }
def k11c6 : Code := { maxStack := 1, maxLocals := 1, code := prog_9_method_12_code, exceptionTable := #[], attributes := #[] }
def k11m6 : Method := { name := "action", desc := "()Lcom/example/stanza_filter/stanzafilter/engine/Action;", sig := { parameters := [], returnType := some (.object "com/example/stanza_filter/stanzafilter/engine/Action") }, accessFlags := 1, code := some k11c6 }
def k11c7 : Code := { maxStack := 2, maxLocals := 1, code := prog_9_method_13_code, exceptionTable := #[], attributes := #[] }
def k11m7 : Method := { name := "order", desc := "()J", sig := { parameters := [], returnType := some .long }, accessFlags := 1, code := some k11c7 }
def k11c8 : Code := { maxStack := 2, maxLocals := 2, code := prog_9_method_15_code, exceptionTable := #[], attributes := #[] }
def k11m8 : Method := { name := "covers", desc := "(Lcom/example/stanza_filter/stanzafilter/engine/Scope;)Z", sig := { parameters := [(.object "com/example/stanza_filter/stanzafilter/engine/Scope")], returnType := some .boolean }, accessFlags := 1, code := some k11c8 }
/-- com/example/stanza_filter/stanzafilter/engine/PrivacyItem -/
def k11 : Class := { plain "com/example/stanza_filter/stanzafilter/engine/PrivacyItem" (some 0) with
  accessFlags := 49
  interfaces := #[]
  cf := some (fileOf pool11 15 #[] #[{ accessFlags := 2, nameIndex := 5, descriptorIndex := 63, attributes := #[] }, { accessFlags := 9, nameIndex := 34, descriptorIndex := 143, attributes := #[] }, { accessFlags := 0, nameIndex := 152, descriptorIndex := 94, attributes := #[] }, { accessFlags := 1, nameIndex := 30, descriptorIndex := 129, attributes := #[] }, { accessFlags := 1, nameIndex := 34, descriptorIndex := 119, attributes := #[] }, { accessFlags := 1, nameIndex := 38, descriptorIndex := 115, attributes := #[] }, { accessFlags := 1, nameIndex := 8, descriptorIndex := 153, attributes := #[] }, { accessFlags := 1, nameIndex := 45, descriptorIndex := 154, attributes := #[] }, { accessFlags := 1, nameIndex := 156, descriptorIndex := 157, attributes := #[] }] 49 2 #[] #[{ accessFlags := 25, nameIndex := 134, descriptorIndex := 46, attributes := #[] }, { accessFlags := 18, nameIndex := 30, descriptorIndex := 31, attributes := #[] }, { accessFlags := 18, nameIndex := 34, descriptorIndex := 35, attributes := #[] }, { accessFlags := 18, nameIndex := 38, descriptorIndex := 39, attributes := #[] }, { accessFlags := 18, nameIndex := 8, descriptorIndex := 42, attributes := #[] }, { accessFlags := 18, nameIndex := 45, descriptorIndex := 46, attributes := #[] }, { accessFlags := 18, nameIndex := 49, descriptorIndex := 50, attributes := #[] }])
  fields := #[{ name := "MAX_ORDER", type := .long, accessFlags := 25, slot := 0, constantValue := 0 }, { name := "jid", type := (.object "com/example/stanza_filter/stanzafilter/engine/Jid"), accessFlags := 18, slot := 0, constantValue := 0 }, { name := "group", type := (.object "java/lang/String"), accessFlags := 18, slot := 1, constantValue := 0 }, { name := "subscription", type := (.object "com/example/stanza_filter/stanzafilter/engine/Subscription"), accessFlags := 18, slot := 2, constantValue := 0 }, { name := "action", type := (.object "com/example/stanza_filter/stanzafilter/engine/Action"), accessFlags := 18, slot := 3, constantValue := 0 }, { name := "order", type := .long, accessFlags := 18, slot := 4, constantValue := 0 }, { name := "scopes", type := (.object "java/util/Set"), accessFlags := 18, slot := 5, constantValue := 0 }]
  methods := #[k11m0, k11m1, k11m2, k11m3, k11m4, k11m5, k11m6, k11m7, k11m8]
  instanceTypes := #[(.object "com/example/stanza_filter/stanzafilter/engine/Jid"), (.object "java/lang/String"), (.object "com/example/stanza_filter/stanzafilter/engine/Subscription"), (.object "com/example/stanza_filter/stanzafilter/engine/Action"), .long, (.object "java/util/Set")]
  staticTypes := #[.long]
  resolved := Array.replicate 177 none
  statics := none }

def pool12 : Array CpInfo := pool [(2, .class_ 4), (1, u "java/lang/Object"), (0, u "<init>"), (0, u "()V"), (35, .class_ 44), (1, u "java/util/Objects"), (0, u "requireNonNull"), (48, u "(Ljava/lang/Object;Ljava/lang/String;)Ljava/lang/Object;")] 89

def k12m0 : Method := { name := "<init>", desc := "()V", sig := { parameters := [], returnType := none }, accessFlags := 2, code := none }
def k12c1 : Code := { maxStack := 3, maxLocals := 2, code := jdk_31_method_11_code, exceptionTable := #[], attributes := #[] }
def k12m1 : Method := { name := "requireNonNull", desc := "(Ljava/lang/Object;Ljava/lang/String;)Ljava/lang/Object;", sig := { parameters := [(.object "java/lang/Object"), (.object "java/lang/String")], returnType := some (.object "java/lang/Object") }, accessFlags := 9, code := some k12c1 }
/-- java/util/Objects -/
def k12 : Class := { plain "java/util/Objects" (some 0) with
  accessFlags := 49
  interfaces := #[]
  cf := some (fileOf pool12 42 #[] #[{ accessFlags := 2, nameIndex := 5, descriptorIndex := 6, attributes := #[] }, { accessFlags := 9, nameIndex := 45, descriptorIndex := 94, attributes := #[] }] 49 2 #[] #[])
  fields := #[]
  methods := #[k12m0, k12m1]
  instanceTypes := #[]
  staticTypes := #[]
  resolved := Array.replicate 184 none
  statics := none }

def pool13 : Array CpInfo := pool [(8, .class_ 10), (1, u "java/lang/Iterable"), (24, .class_ 36), (0, u "java/lang/Object")] 25

/-- java/lang/Iterable -/
def k13 : Class := { plain "java/lang/Iterable" (some 0) with
  accessFlags := 1537
  interfaces := #[]
  cf := some (fileOf pool13 8 #[] #[] 1537 35 #[] #[])
  fields := #[]
  methods := #[]
  instanceTypes := #[]
  staticTypes := #[]
  resolved := Array.replicate 62 none
  statics := none }

def pool14 : Array CpInfo := pool [(10, .class_ 12), (1, u "java/util/Collection"), (47, .class_ 61), (0, u "java/lang/Object"), (0, .class_ 63), (0, u "java/lang/Iterable")] 51

/-- java/util/Collection -/
def k14 : Class := { plain "java/util/Collection" (some 0) with
  accessFlags := 1537
  interfaces := #[13]
  cf := some (fileOf pool14 10 #[] #[] 1537 60 #[62] #[])
  fields := #[]
  methods := #[]
  instanceTypes := #[]
  staticTypes := #[]
  resolved := Array.replicate 115 none
  statics := none }

def pool15 : Array CpInfo := pool [(9, .fieldref 10 11), (0, .class_ 12), (0, .nameAndType 13 14), (0, u "java/util/ImmutableCollections"), (0, u "EMPTY_SET"), (0, u "Ljava/util/ImmutableCollections$SetN;"), (11, .class_ 27), (0, u "java/lang/Object"), (5, .class_ 34), (0, u "java/util/Set"), (1, .class_ 38), (1, u "java/util/Collection"), (0, u "isEmpty"), (0, u "()Z"), (2, u "of"), (0, u "()Ljava/util/Set;")] 99

def k15m0 : Method := { name := "isEmpty", desc := "()Z", sig := { parameters := [], returnType := some .boolean }, accessFlags := 1025, code := none }
def k15c1 : Code := { maxStack := 1, maxLocals := 0, code := jdk_96_method_17_code, exceptionTable := #[], attributes := #[] }
def k15m1 : Method := { name := "of", desc := "()Ljava/util/Set;", sig := { parameters := [], returnType := some (.object "java/util/Set") }, accessFlags := 9, code := some k15c1 }
/-- java/util/Set -/
def k15 : Class := { plain "java/util/Set" (some 0) with
  accessFlags := 1537
  interfaces := #[14]
  cf := some (fileOf pool15 33 #[] #[{ accessFlags := 1025, nameIndex := 39, descriptorIndex := 40, attributes := #[] }, { accessFlags := 9, nameIndex := 43, descriptorIndex := 44, attributes := #[] }] 1537 26 #[36] #[])
  fields := #[]
  methods := #[k15m0, k15m1]
  instanceTypes := #[]
  staticTypes := #[]
  resolved := Array.replicate 144 none
  statics := none }

def pool16 : Array CpInfo := pool [(2, .class_ 4), (1, u "java/lang/Object"), (0, u "<init>"), (0, u "()V"), (3, .class_ 11), (0, u "java/util/ImmutableCollections$List12"), (0, .class_ 13), (0, u "java/util/ImmutableCollections$ListN"), (3, u "Z"), (29, .class_ 49), (1, u "java/util/ImmutableCollections"), (0, u "$assertionsDisabled"), (5, u "[Ljava/lang/Object;"), (5, u "EMPTY_LIST"), (0, u "Ljava/util/ImmutableCollections$ListN;"), (8, u "EMPTY_LIST_NULLS"), (22, u "SALT32L"), (0, u "J"), (2, u "REVERSE"), (6, u "archivedObjects"), (2, u "EMPTY"), (0, u "Ljava/lang/Object;"), (0, .class_ 112), (0, u "java/util/ImmutableCollections$SetN"), (5, u "EMPTY_SET"), (0, u "Ljava/util/ImmutableCollections$SetN;"), (0, .class_ 121), (0, u "java/util/ImmutableCollections$MapN"), (3, u "EMPTY_MAP"), (0, u "Ljava/util/ImmutableCollections$MapN;"), (4, u "EXPAND_FACTOR"), (0, u "I"), (36, .class_ 170), (0, u "java/util/ImmutableCollections$MapN$MapNIterator"), (0, .class_ 172), (0, u "java/util/ImmutableCollections$MapN$1"), (0, .class_ 174), (0, u "java/util/ImmutableCollections$Map1"), (0, .class_ 176), (0, u "java/util/ImmutableCollections$AbstractImmutableMap"), (0, .class_ 178), (0, u "java/util/ImmutableCollections$SetN$SetNIterator"), (0, .class_ 180), (0, u "java/util/ImmutableCollections$Set12"), (0, .class_ 182), (0, u "java/util/ImmutableCollections$Set12$1"), (0, .class_ 184), (0, u "java/util/ImmutableCollections$AbstractImmutableSet"), (0, .class_ 186), (0, u "java/util/ImmutableCollections$SubList"), (0, .class_ 188), (0, u "java/util/ImmutableCollections$ListItr"), (0, .class_ 190), (0, u "java/util/ImmutableCollections$AbstractImmutableList"), (0, .class_ 192), (0, u "java/util/ImmutableCollections$AbstractImmutableCollection"), (0, .class_ 194), (0, u "java/util/ImmutableCollections$Access"), (0, .class_ 196), (0, u "java/util/ImmutableCollections$Access$1")] 16

def k16m0 : Method := { name := "<init>", desc := "()V", sig := { parameters := [], returnType := none }, accessFlags := 2, code := none }
/-- java/util/ImmutableCollections -/
def k16 : Class := { plain "java/util/ImmutableCollections" (some 0) with
  accessFlags := 32
  interfaces := #[]
  cf := some (fileOf pool16 47 #[.nestMembers #[120, 169, 171, 173, 175, 111, 177, 179, 181, 183, 12, 10, 185, 187, 189, 191, 193, 195]] #[{ accessFlags := 2, nameIndex := 5, descriptorIndex := 6, attributes := #[] }] 32 2 #[] #[{ accessFlags := 26, nameIndex := 95, descriptorIndex := 96, attributes := #[] }, { accessFlags := 26, nameIndex := 99, descriptorIndex := 17, attributes := #[] }, { accessFlags := 10, nameIndex := 106, descriptorIndex := 56, attributes := #[] }, { accessFlags := 26, nameIndex := 109, descriptorIndex := 110, attributes := #[] }, { accessFlags := 24, nameIndex := 62, descriptorIndex := 63, attributes := #[] }, { accessFlags := 24, nameIndex := 72, descriptorIndex := 63, attributes := #[] }, { accessFlags := 24, nameIndex := 118, descriptorIndex := 119, attributes := #[] }, { accessFlags := 24, nameIndex := 125, descriptorIndex := 126, attributes := #[] }, { accessFlags := 24, nameIndex := 131, descriptorIndex := 132, attributes := #[] }, { accessFlags := 4120, nameIndex := 50, descriptorIndex := 17, attributes := #[] }])
  fields := #[{ name := "SALT32L", type := .long, accessFlags := 26, slot := 0, constantValue := 0 }, { name := "REVERSE", type := .boolean, accessFlags := 26, slot := 1, constantValue := 0 }, { name := "archivedObjects", type := (.array (.object "java/lang/Object")), accessFlags := 10, slot := 2, constantValue := 0 }, { name := "EMPTY", type := (.object "java/lang/Object"), accessFlags := 26, slot := 3, constantValue := 0 }, { name := "EMPTY_LIST", type := (.object "java/util/ImmutableCollections$ListN"), accessFlags := 24, slot := 4, constantValue := 0 }, { name := "EMPTY_LIST_NULLS", type := (.object "java/util/ImmutableCollections$ListN"), accessFlags := 24, slot := 5, constantValue := 0 }, { name := "EMPTY_SET", type := (.object "java/util/ImmutableCollections$SetN"), accessFlags := 24, slot := 6, constantValue := 0 }, { name := "EMPTY_MAP", type := (.object "java/util/ImmutableCollections$MapN"), accessFlags := 24, slot := 7, constantValue := 0 }, { name := "EXPAND_FACTOR", type := .int, accessFlags := 24, slot := 8, constantValue := 0 }, { name := "$assertionsDisabled", type := .boolean, accessFlags := 4120, slot := 9, constantValue := 0 }]
  methods := #[k16m0]
  instanceTypes := #[]
  staticTypes := #[.long, .boolean, (.array (.object "java/lang/Object")), (.object "java/lang/Object"), (.object "java/util/ImmutableCollections$ListN"), (.object "java/util/ImmutableCollections$ListN"), (.object "java/util/ImmutableCollections$SetN"), (.object "java/util/ImmutableCollections$MapN"), .int, .boolean]
  resolved := Array.replicate 213 none
  statics := some 3 }

def pool17 : Array CpInfo := pool [(2, .class_ 4), (1, u "java/lang/Object"), (0, u "<init>"), (0, u "()V"), (1, .class_ 10), (1, u "java/util/AbstractCollection"), (66, .class_ 78), (0, u "java/util/Collection")] 81

def k17m0 : Method := { name := "<init>", desc := "()V", sig := { parameters := [], returnType := none }, accessFlags := 4, code := none }
/-- java/util/AbstractCollection -/
def k17 : Class := { plain "java/util/AbstractCollection" (some 0) with
  accessFlags := 1057
  interfaces := #[14]
  cf := some (fileOf pool17 8 #[] #[{ accessFlags := 4, nameIndex := 5, descriptorIndex := 6, attributes := #[] }] 1057 2 #[77] #[])
  fields := #[]
  methods := #[k17m0]
  instanceTypes := #[]
  staticTypes := #[]
  resolved := Array.replicate 160 none
  statics := none }

def pool18 : Array CpInfo := pool [(2, .class_ 4), (1, u "java/util/AbstractCollection"), (0, u "<init>"), (0, u "()V"), (1, .class_ 10), (1, u "java/util/ImmutableCollections"), (2, .class_ 14), (0, u "java/util/ImmutableCollections$AbstractImmutableCollection")] 41

def k18m0 : Method := { name := "<init>", desc := "()V", sig := { parameters := [], returnType := none }, accessFlags := 0, code := none }
/-- java/util/ImmutableCollections$AbstractImmutableCollection -/
def k18 : Class := { plain "java/util/ImmutableCollections$AbstractImmutableCollection" (some 17) with
  accessFlags := 1056
  interfaces := #[]
  cf := some (fileOf pool18 13 #[.nestHost 8] #[{ accessFlags := 0, nameIndex := 5, descriptorIndex := 6, attributes := #[] }] 1056 2 #[] #[])
  fields := #[]
  methods := #[k18m0]
  instanceTypes := #[]
  staticTypes := #[]
  resolved := Array.replicate 56 none
  statics := none }

def pool19 : Array CpInfo := pool [(2, .class_ 4), (1, u "java/util/ImmutableCollections$AbstractImmutableCollection"), (0, u "<init>"), (0, u "()V"), (0, .class_ 8), (0, u "java/util/Set"), (7, .class_ 17), (0, u "java/util/ImmutableCollections$AbstractImmutableSet"), (43, .class_ 62), (0, u "java/util/ImmutableCollections")] 3

def k19m0 : Method := { name := "<init>", desc := "()V", sig := { parameters := [], returnType := none }, accessFlags := 0, code := none }
/-- java/util/ImmutableCollections$AbstractImmutableSet -/
def k19 : Class := { plain "java/util/ImmutableCollections$AbstractImmutableSet" (some 18) with
  accessFlags := 1056
  interfaces := #[15]
  cf := some (fileOf pool19 16 #[.nestHost 61] #[{ accessFlags := 0, nameIndex := 5, descriptorIndex := 6, attributes := #[] }] 1056 2 #[7] #[])
  fields := #[]
  methods := #[k19m0]
  instanceTypes := #[]
  staticTypes := #[]
  resolved := Array.replicate 66 none
  statics := none }

def pool20 : Array CpInfo := pool [(1, .class_ 2), (0, u "java/util/ImmutableCollections"), (1, .class_ 6), (1, u "java/util/ImmutableCollections$AbstractImmutableSet"), (2, .fieldref 10 11), (0, .class_ 12), (0, .nameAndType 13 14), (0, u "java/util/ImmutableCollections$SetN"), (0, u "size"), (0, u "I"), (4, u "elements"), (0, u "[Ljava/lang/Object;"), (86, .class_ 108), (0, u "java/io/Serializable"), (21, u "isEmpty"), (0, u "()Z")] 36

def k20c0 : Code := { maxStack := 1, maxLocals := 1, code := jdk_132_method_3_code, exceptionTable := #[], attributes := #[] }
def k20m0 : Method := { name := "isEmpty", desc := "()Z", sig := { parameters := [], returnType := some .boolean }, accessFlags := 1, code := some k20c0 }
/-- java/util/ImmutableCollections$SetN -/
def k20 : Class := { plain "java/util/ImmutableCollections$SetN" (some 19) with
  accessFlags := 48
  interfaces := #[4]
  cf := some (fileOf pool20 10 #[.nestHost 1] #[{ accessFlags := 1, nameIndex := 130, descriptorIndex := 131, attributes := #[] }] 48 4 #[107] #[{ accessFlags := 16, nameIndex := 19, descriptorIndex := 20, attributes := #[] }, { accessFlags := 16, nameIndex := 13, descriptorIndex := 14, attributes := #[] }])
  fields := #[{ name := "elements", type := (.array (.object "java/lang/Object")), accessFlags := 16, slot := 0, constantValue := 0 }, { name := "size", type := .int, accessFlags := 16, slot := 1, constantValue := 0 }]
  methods := #[k20m0]
  instanceTypes := #[(.array (.object "java/lang/Object")), .int]
  staticTypes := #[]
  resolved := Array.replicate 168 none
  statics := none }

def pool21 : Array CpInfo := pool [(6, .class_ 8), (1, u "java/lang/Object"), (0, u "<init>"), (0, u "()V"), (1, .class_ 14), (1, u "java/lang/StringUTF16"), (31, u "$assertionsDisabled"), (0, u "Z"), (13, u "HI_BYTE_SHIFT"), (0, u "I"), (2, u "LO_BYTE_SHIFT"), (49, .methodref 12 116), (0, .nameAndType 117 118), (0, u "compress"), (0, u "([CI[BII)I"), (3, u "([CII)[B"), (138, u "coderFromArrayLen"), (0, u "([BI)B"), (106, .class_ 371), (1, u "java/lang/StringUTF16$LinesSpliterator"), (58, u "MAX_LENGTH"), (196, .class_ 628), (0, u "java/lang/StringUTF16$CodePointsSpliterator"), (0, .class_ 630), (0, u "java/lang/StringUTF16$CharsSpliterator")] 4

def k21m0 : Method := { name := "<init>", desc := "()V", sig := { parameters := [], returnType := none }, accessFlags := 0, code := none }
def k21c1 : Code := { maxStack := 2, maxLocals := 2, code := jdk_52_method_15_code, exceptionTable := #[], attributes := #[] }
def k21m1 : Method := { name := "coderFromArrayLen", desc := "([BI)B", sig := { parameters := [(.array .byte), .int], returnType := some .byte }, accessFlags := 8, code := some k21c1 }
def k21c2 : Code := { maxStack := 5, maxLocals := 6, code := jdk_52_method_16_code, exceptionTable := #[], attributes := #[] }
def k21m2 : Method := { name := "compress", desc := "([CII)[B", sig := { parameters := [(.array .char), .int, .int], returnType := some (.array .byte) }, accessFlags := 9, code := some k21c2 }
def k21c3 : Code := { maxStack := 3, maxLocals := 7, code := jdk_52_method_21_code, exceptionTable := #[], attributes := #[] }
def k21m3 : Method := { name := "compress", desc := "([CI[BII)I", sig := { parameters := [(.array .char), .int, (.array .byte), .int, .int], returnType := some .int }, accessFlags := 9, code := some k21c3 }
/-- java/lang/StringUTF16 -/
def k21 : Class := { plain "java/lang/StringUTF16" (some 0) with
  accessFlags := 48
  interfaces := #[]
  cf := some (fileOf pool21 12 #[.nestMembers #[627, 629, 369]] #[{ accessFlags := 0, nameIndex := 9, descriptorIndex := 10, attributes := #[] }, { accessFlags := 8, nameIndex := 261, descriptorIndex := 262, attributes := #[] }, { accessFlags := 9, nameIndex := 117, descriptorIndex := 122, attributes := #[] }, { accessFlags := 9, nameIndex := 117, descriptorIndex := 118, attributes := #[] }] 48 6 #[] #[{ accessFlags := 26, nameIndex := 61, descriptorIndex := 62, attributes := #[] }, { accessFlags := 26, nameIndex := 65, descriptorIndex := 62, attributes := #[] }, { accessFlags := 24, nameIndex := 430, descriptorIndex := 62, attributes := #[] }, { accessFlags := 4120, nameIndex := 46, descriptorIndex := 47, attributes := #[] }])
  fields := #[{ name := "HI_BYTE_SHIFT", type := .int, accessFlags := 26, slot := 0, constantValue := 0 }, { name := "LO_BYTE_SHIFT", type := .int, accessFlags := 26, slot := 1, constantValue := 0 }, { name := "MAX_LENGTH", type := .int, accessFlags := 24, slot := 2, constantValue := 0 }, { name := "$assertionsDisabled", type := .boolean, accessFlags := 4120, slot := 3, constantValue := 0 }]
  methods := #[k21m0, k21m1, k21m2, k21m3]
  instanceTypes := #[]
  staticTypes := #[.int, .int, .int, .boolean]
  resolved := Array.replicate 635 none
  statics := none }

def pool22 : Array CpInfo := pool [(4, .class_ 6), (1, u "java/lang/Object"), (0, u "<init>"), (0, u "()V"), (5, .class_ 16), (1, u "java/lang/StringLatin1"), (104, u "$assertionsDisabled"), (0, u "Z"), (98, .class_ 223), (1, u "java/lang/StringLatin1$LinesSpliterator"), (166, .class_ 391), (0, u "java/lang/StringLatin1$CharsSpliterator")] 3

def k22m0 : Method := { name := "<init>", desc := "()V", sig := { parameters := [], returnType := none }, accessFlags := 0, code := none }
/-- java/lang/StringLatin1 -/
def k22 : Class := { plain "java/lang/StringLatin1" (some 0) with
  accessFlags := 48
  interfaces := #[]
  cf := some (fileOf pool22 14 #[.nestMembers #[390, 221]] #[{ accessFlags := 0, nameIndex := 7, descriptorIndex := 8, attributes := #[] }] 48 4 #[] #[{ accessFlags := 4120, nameIndex := 121, descriptorIndex := 122, attributes := #[] }])
  fields := #[{ name := "$assertionsDisabled", type := .boolean, accessFlags := 4120, slot := 0, constantValue := 0 }]
  methods := #[k22m0]
  instanceTypes := #[]
  staticTypes := #[.boolean]
  resolved := Array.replicate 395 none
  statics := none }

def pool23 : Array CpInfo := pool [(2, .class_ 4), (1, u "java/lang/Object"), (0, u "<init>"), (0, u "()V"), (17, .class_ 26), (1, u "jdk/internal/util/Preconditions"), (28, .class_ 56), (0, u "jdk/internal/util/Preconditions$4"), (57, .class_ 115), (0, u "jdk/internal/util/Preconditions$1"), (7, u "SIOOBE_FORMATTER"), (0, u "Ljava/util/function/BiFunction;"), (0, .class_ 126), (0, u "jdk/internal/util/Preconditions$2"), (3, u "AIOOBE_FORMATTER"), (0, .class_ 132), (0, u "jdk/internal/util/Preconditions$3"), (3, u "IOOBE_FORMATTER")] 57

def k23m0 : Method := { name := "<init>", desc := "()V", sig := { parameters := [], returnType := none }, accessFlags := 1, code := none }
/-- jdk/internal/util/Preconditions -/
def k23 : Class := { plain "jdk/internal/util/Preconditions" (some 0) with
  accessFlags := 33
  interfaces := #[]
  cf := some (fileOf pool23 24 #[.nestMembers #[55, 131, 125, 114]] #[{ accessFlags := 1, nameIndex := 5, descriptorIndex := 6, attributes := #[] }] 33 2 #[] #[{ accessFlags := 25, nameIndex := 123, descriptorIndex := 124, attributes := #[] }, { accessFlags := 25, nameIndex := 130, descriptorIndex := 124, attributes := #[] }, { accessFlags := 25, nameIndex := 136, descriptorIndex := 124, attributes := #[] }])
  fields := #[{ name := "SIOOBE_FORMATTER", type := (.object "java/util/function/BiFunction"), accessFlags := 25, slot := 0, constantValue := 0 }, { name := "AIOOBE_FORMATTER", type := (.object "java/util/function/BiFunction"), accessFlags := 25, slot := 1, constantValue := 0 }, { name := "IOOBE_FORMATTER", type := (.object "java/util/function/BiFunction"), accessFlags := 25, slot := 2, constantValue := 0 }]
  methods := #[k23m0]
  instanceTypes := #[]
  staticTypes := #[(.object "java/util/function/BiFunction"), (.object "java/util/function/BiFunction"), (.object "java/util/function/BiFunction")]
  resolved := Array.replicate 194 none
  statics := some 4 }

def pool24 : Array CpInfo := pool [(9, u "<init>"), (6, .class_ 18), (1, u "java/lang/Object"), (0, u "()V"), (1, .class_ 23), (1, u "jdk/internal/util/ArraysSupport"), (0, u "LOG2_ARRAY_LONG_INDEX_SCALE"), (0, u "I"), (2, u "U"), (0, u "Ljdk/internal/misc/Unsafe;"), (8, u "BIG_ENDIAN"), (0, u "Z"), (8, u "LOG2_BYTE_BIT_SIZE"), (4, u "LOG2_ARRAY_INT_INDEX_SCALE"), (54, u "JLA"), (0, u "Ljdk/internal/access/JavaLangAccess;"), (11, u "LOG2_ARRAY_BOOLEAN_INDEX_SCALE"), (9, u "LOG2_ARRAY_BYTE_INDEX_SCALE"), (5, u "LOG2_ARRAY_CHAR_INDEX_SCALE"), (5, u "LOG2_ARRAY_SHORT_INDEX_SCALE"), (18, u "LOG2_ARRAY_FLOAT_INDEX_SCALE"), (24, u "LOG2_ARRAY_DOUBLE_INDEX_SCALE"), (89, u "T_BOOLEAN"), (2, u "T_CHAR"), (1, u "T_FLOAT"), (1, u "T_DOUBLE"), (1, u "T_BYTE"), (1, u "T_SHORT"), (1, u "T_INT"), (1, u "T_LONG"), (1, u "SOFT_MAX_ARRAY_LENGTH")] 83

def k24m0 : Method := { name := "<init>", desc := "()V", sig := { parameters := [], returnType := none }, accessFlags := 2, code := none }
/-- jdk/internal/util/ArraysSupport -/
def k24 : Class := { plain "jdk/internal/util/ArraysSupport" (some 0) with
  accessFlags := 33
  interfaces := #[]
  cf := some (fileOf pool24 21 #[] #[{ accessFlags := 2, nameIndex := 9, descriptorIndex := 19, attributes := #[] }] 33 16 #[] #[{ accessFlags := 24, nameIndex := 28, descriptorIndex := 29, attributes := #[] }, { accessFlags := 26, nameIndex := 38, descriptorIndex := 39, attributes := #[] }, { accessFlags := 25, nameIndex := 121, descriptorIndex := 25, attributes := #[] }, { accessFlags := 25, nameIndex := 131, descriptorIndex := 25, attributes := #[] }, { accessFlags := 25, nameIndex := 137, descriptorIndex := 25, attributes := #[] }, { accessFlags := 25, nameIndex := 143, descriptorIndex := 25, attributes := #[] }, { accessFlags := 25, nameIndex := 53, descriptorIndex := 25, attributes := #[] }, { accessFlags := 25, nameIndex := 24, descriptorIndex := 25, attributes := #[] }, { accessFlags := 25, nameIndex := 162, descriptorIndex := 25, attributes := #[] }, { accessFlags := 25, nameIndex := 187, descriptorIndex := 25, attributes := #[] }, { accessFlags := 26, nameIndex := 48, descriptorIndex := 25, attributes := #[] }, { accessFlags := 25, nameIndex := 277, descriptorIndex := 25, attributes := #[] }, { accessFlags := 25, nameIndex := 280, descriptorIndex := 25, attributes := #[] }, { accessFlags := 25, nameIndex := 282, descriptorIndex := 25, attributes := #[] }, { accessFlags := 25, nameIndex := 284, descriptorIndex := 25, attributes := #[] }, { accessFlags := 25, nameIndex := 286, descriptorIndex := 25, attributes := #[] }, { accessFlags := 25, nameIndex := 288, descriptorIndex := 25, attributes := #[] }, { accessFlags := 25, nameIndex := 290, descriptorIndex := 25, attributes := #[] }, { accessFlags := 25, nameIndex := 292, descriptorIndex := 25, attributes := #[] }, { accessFlags := 26, nameIndex := 108, descriptorIndex := 109, attributes := #[] }, { accessFlags := 25, nameIndex := 294, descriptorIndex := 25, attributes := #[] }])
  fields := #[{ name := "U", type := (.object "jdk/internal/misc/Unsafe"), accessFlags := 24, slot := 0, constantValue := 0 }, { name := "BIG_ENDIAN", type := .boolean, accessFlags := 26, slot := 1, constantValue := 0 }, { name := "LOG2_ARRAY_BOOLEAN_INDEX_SCALE", type := .int, accessFlags := 25, slot := 2, constantValue := 0 }, { name := "LOG2_ARRAY_BYTE_INDEX_SCALE", type := .int, accessFlags := 25, slot := 3, constantValue := 0 }, { name := "LOG2_ARRAY_CHAR_INDEX_SCALE", type := .int, accessFlags := 25, slot := 4, constantValue := 0 }, { name := "LOG2_ARRAY_SHORT_INDEX_SCALE", type := .int, accessFlags := 25, slot := 5, constantValue := 0 }, { name := "LOG2_ARRAY_INT_INDEX_SCALE", type := .int, accessFlags := 25, slot := 6, constantValue := 0 }, { name := "LOG2_ARRAY_LONG_INDEX_SCALE", type := .int, accessFlags := 25, slot := 7, constantValue := 0 }, { name := "LOG2_ARRAY_FLOAT_INDEX_SCALE", type := .int, accessFlags := 25, slot := 8, constantValue := 0 }, { name := "LOG2_ARRAY_DOUBLE_INDEX_SCALE", type := .int, accessFlags := 25, slot := 9, constantValue := 0 }, { name := "LOG2_BYTE_BIT_SIZE", type := .int, accessFlags := 26, slot := 10, constantValue := 0 }, { name := "T_BOOLEAN", type := .int, accessFlags := 25, slot := 11, constantValue := 0 }, { name := "T_CHAR", type := .int, accessFlags := 25, slot := 12, constantValue := 0 }, { name := "T_FLOAT", type := .int, accessFlags := 25, slot := 13, constantValue := 0 }, { name := "T_DOUBLE", type := .int, accessFlags := 25, slot := 14, constantValue := 0 }, { name := "T_BYTE", type := .int, accessFlags := 25, slot := 15, constantValue := 0 }, { name := "T_SHORT", type := .int, accessFlags := 25, slot := 16, constantValue := 0 }, { name := "T_INT", type := .int, accessFlags := 25, slot := 17, constantValue := 0 }, { name := "T_LONG", type := .int, accessFlags := 25, slot := 18, constantValue := 0 }, { name := "JLA", type := (.object "jdk/internal/access/JavaLangAccess"), accessFlags := 26, slot := 19, constantValue := 0 }, { name := "SOFT_MAX_ARRAY_LENGTH", type := .int, accessFlags := 25, slot := 20, constantValue := 0 }]
  methods := #[k24m0]
  instanceTypes := #[]
  staticTypes := #[(.object "jdk/internal/misc/Unsafe"), .boolean, .int, .int, .int, .int, .int, .int, .int, .int, .int, .int, .int, .int, .int, .int, .int, .int, .int, (.object "jdk/internal/access/JavaLangAccess"), .int]
  resolved := Array.replicate 378 none
  statics := none }

def pool25 : Array CpInfo := pool [(1, u "java/lang/Cloneable"), (0, .class_ 1), (0, u "java/lang/Object"), (0, .class_ 3)] 3

/-- java/lang/Cloneable -/
def k25 : Class := { plain "java/lang/Cloneable" (some 0) with
  accessFlags := 1537
  interfaces := #[]
  cf := some (fileOf pool25 2 #[] #[] 1537 4 #[] #[])
  fields := #[]
  methods := #[]
  instanceTypes := #[]
  staticTypes := #[]
  resolved := Array.replicate 8 none
  statics := none }

/-- the primitive byte -/
def k26 : Class := { plain "byte" none with kind := .primitive 'B', accessFlags := 0x411 }
/-- [B -/
def k27 : Class := { plain "[B" (some 0) with kind := .array 26 .byte, interfaces := #[25, 4], accessFlags := 1041 }

/-- the primitive char -/
def k28 : Class := { plain "char" none with kind := .primitive 'C', accessFlags := 0x411 }
/-- [C -/
def k29 : Class := { plain "[C" (some 0) with kind := .array 28 .char, interfaces := #[25, 4], accessFlags := 1041 }

/-- the primitive int -/
def k30 : Class := { plain "int" none with kind := .primitive 'I', accessFlags := 0x411 }
/-- [I -/
def k31 : Class := { plain "[I" (some 0) with kind := .array 30 .int, interfaces := #[25, 4], accessFlags := 1041 }

/-- [Ljava/lang/Object; -/
def k32 : Class := { plain "[Ljava/lang/Object;" (some 0) with kind := .array 0 (.object "java/lang/Object"), interfaces := #[25, 4], accessFlags := 1041 }

def heap : Heap := #[{ cls := 6, slots := #[.ref 7, .ref 9, .null], vm := .statics 6 },
  { cls := 7, slots := #[.ref 10, .ref 8, .ref 12, .ref 11, .null], vm := .statics 7 },
  { cls := 10, slots := #[.long 0, .int 1, .null, .int 0, .null, .int 0, .int 0], vm := .statics 10 },
  { cls := 16, slots := #[.long 0, .int 0, .null, .null, .null, .null, .ref 6, .null, .int 0, .int 0], vm := .statics 16 },
  { cls := 23, slots := #[.null, .null, .null], vm := .statics 23 },
  { cls := 32, slots := #[], vm := .none },
  { cls := 20, slots := #[.ref 5, .int 0], vm := .none },
  { cls := 6, slots := #[.null, .int 0, .int 0], vm := .none },
  { cls := 7, slots := #[.null, .int 0, .int 0], vm := .none },
  { cls := 6, slots := #[.null, .int 0, .int 0], vm := .none },
  { cls := 7, slots := #[.null, .int 0, .int 0], vm := .none },
  { cls := 7, slots := #[.null, .int 0, .int 0], vm := .none },
  { cls := 7, slots := #[.null, .int 0, .int 0], vm := .none }]
def classes : Array Class := #[k0, k1, k2, k3, k4, k5, k6, k7, k8, k9, k10, k11, k12, k13, k14, k15, k16, k17, k18, k19, k20, k21, k22, k23, k24, k25, k26, k27, k28, k29, k30, k31, k32]
def interned : List (Array UInt16 × Addr) := []
def slotsUsed : Nat := 48
def theMethod : MethodId := ⟨1, 1⟩
def args0 : Array Value := #[.long 5, .int 2, .int 3, .int 4, .int 5]
def aboutOver (below : List Frame) : State where
  vm := { classes := classes, interned := interned.toArray }
  heap := heap
  slotsUsed := slotsUsed
  threads := #[{ frames := .invoking theMethod args0 :: below }]
def below0 : List Frame := [.native { method := ⟨0, 0⟩, args := #[] }]
def about1 : State := aboutOver below0
def p0 : Program := .bare "" "" ""
def e0 : Env := launch0.env 0 0 0
theorem w_frames : about1.frames = Frame.invoking theMethod args0 :: below0 := rfl
set_option maxRecDepth 65536 in
theorem w_args : argsFit about1.vm theMethod args0 = true := by decide +kernel
set_option maxRecDepth 65536 in
theorem w_heap : heapFits about1 = true := by decide +kernel
set_option maxRecDepth 65536 in
theorem w_runnable : about1.curStatus? = some .runnable := by decide +kernel
set_option maxRecDepth 65536 in
theorem w_alone : about1.alone = true := by decide +kernel
set_option maxRecDepth 65536 in
theorem w_named : about1.methodNamed? x = some theMethod := by decide +kernel
set_option maxRecDepth 65536 in
theorem w_hears : about1.hears theMethod below0 = true := by decide +kernel
set_option maxRecDepth 65536 in
theorem w_ripe : about1.ripe theMethod args0 below0 = true := by decide +kernel
theorem w_running : about1.status = .running := rfl
set_option maxRecDepth 65536 in
theorem w_room : about1.hasRoom e0.platform room_1 = true :=
  launch0.hasRoom_least _ room_1 (by decide +kernel) (by decide +kernel) (by decide +kernel) (by decide +kernel) (by decide +kernel) (by decide +kernel)
theorem allAtoms_all (ts : List Jvm.Cond) (a : Array Jvm.Value) (st : Jvm.State) : (allAtoms ts).before a st = ts.all (fun c => c.before a st) := by
  induction ts with
  | nil => rfl
  | cons c t ih =>
    show (Jvm.Cond.and c (allAtoms t)).before a st = _
    rw [Jvm.Cond.before_and, ih, List.all_cons]
def words1 : List Jvm.Cond := Jvm.Cond.code x code maxLocals ret :: tables_1
/-- a 'code' word, met by the world's own term for the bytes: nothing is compared byte by byte -/
theorem code_word {y : MethodName} {bytes : ByteArray} {mx : Nat} {rt : Option FieldType} {a : Array Value} {s : State} {m : MethodId} {meth : Method} {c : Code} (h1 : s.methodNamed? y = some m) (h2 : s.vm.method? m = some meth) (h3 : meth.code = some c) (h4 : c.code = bytes)
    (h5 : (c.maxLocals == mx && c.exceptionTable.isEmpty && decide (c.maxStack ≤ mostOperands) && decide (meth.sig.returnType = rt) && !meth.locks && decide (parseMethodDescriptor y.desc = some meth.sig)) = true) : (Jvm.Cond.code y bytes mx rt).before a s = true := by
  simp only [Bool.and_eq_true, beq_iff_eq, Bool.not_eq_true', decide_eq_true_eq] at h5
  obtain ⟨⟨⟨⟨⟨g1, g2⟩, g3⟩, g4⟩, g5⟩, g6⟩ := h5
  simp [Cond.before, Cond.holds, Cond.value, h1, h2, h3, h4, g1, g2, g3, g4, g5, g6]
def isCode : Jvm.Cond → Bool
  | .code _ _ _ _ => true
  | _ => false
theorem all_split {L : List Jvm.Cond} {P : Jvm.Cond → Bool} (h1 : L.all (fun c => isCode c || P c) = true) (h2 : ∀ c ∈ L.filter isCode, P c = true) : L.all P = true := by
  refine List.all_eq_true.mpr fun c hc => ?_
  have h := List.all_eq_true.mp h1 c hc
  rcases Bool.eq_false_or_eq_true (isCode c) with hi | hi
  · exact h2 c (List.mem_filter.mpr ⟨hc, hi⟩)
  · simpa [hi] using h
set_option maxRecDepth 65536 in
theorem w_c0 : (Jvm.Cond.code x code maxLocals ret).before args0 about1 = true := code_word (m := ⟨1, 1⟩) (meth := k1m1) (c := k1c1) (by decide +kernel) rfl rfl rfl (by decide +kernel)
set_option maxRecDepth 65536 in
theorem w_c1 : (Jvm.Cond.code ({ cls := "com/example/stanza_filter/stanzafilter/engine/PrivacyItemGroupPinLaw", name := "makeString", desc := "(ICCC)Ljava/lang/String;" } : Jvm.MethodName) method_3_code (5 : Nat) (Option.some (Jvm.ClassFile.FieldType.object "java/lang/String"))).before args0 about1 = true := code_word (m := ⟨1, 2⟩) (meth := k1m2) (c := k1c2) (by decide +kernel) rfl rfl rfl (by decide +kernel)
set_option maxRecDepth 65536 in
theorem w_c2 : (Jvm.Cond.code ({ cls := "java/lang/String", name := "<init>", desc := "([C)V" } : Jvm.MethodName) jdk_42_method_3_code (2 : Nat) (Option.none : Option Jvm.ClassFile.FieldType)).before args0 about1 = true := code_word (m := ⟨10, 1⟩) (meth := k10m1) (c := k10c1) (by decide +kernel) rfl rfl rfl (by decide +kernel)
set_option maxRecDepth 65536 in
theorem w_c3 : (Jvm.Cond.code ({ cls := "java/lang/String", name := "<init>", desc := "([CIILjava/lang/Void;)V" } : Jvm.MethodName) jdk_42_method_149_code (6 : Nat) (Option.none : Option Jvm.ClassFile.FieldType)).before args0 about1 = true := code_word (m := ⟨10, 3⟩) (meth := k10m3) (c := k10c3) (by decide +kernel) rfl rfl rfl (by decide +kernel)
set_option maxRecDepth 65536 in
theorem w_c4 : (Jvm.Cond.code ({ cls := "java/lang/Object", name := "<init>", desc := "()V" } : Jvm.MethodName) object_method_1_code (1 : Nat) (Option.none : Option Jvm.ClassFile.FieldType)).before args0 about1 = true := code_word (m := ⟨0, 0⟩) (meth := k0m0) (c := k0c0) (by decide +kernel) rfl rfl rfl (by decide +kernel)
set_option maxRecDepth 65536 in
theorem w_c5 : (Jvm.Cond.code ({ cls := "com/example/stanza_filter/stanzafilter/engine/PrivacyItem", name := "group", desc := "(Ljava/lang/String;Lcom/example/stanza_filter/stanzafilter/engine/Action;J)Lcom/example/stanza_filter/stanzafilter/engine/PrivacyItem;" } : Jvm.MethodName) prog_9_method_3_code (4 : Nat) (Option.some (Jvm.ClassFile.FieldType.object "com/example/stanza_filter/stanzafilter/engine/PrivacyItem"))).before args0 about1 = true := code_word (m := ⟨11, 1⟩) (meth := k11m1) (c := k11c1) (by decide +kernel) rfl rfl rfl (by decide +kernel)
set_option maxRecDepth 65536 in
theorem w_c6 : (Jvm.Cond.code ({ cls := "java/util/Objects", name := "requireNonNull", desc := "(Ljava/lang/Object;Ljava/lang/String;)Ljava/lang/Object;" } : Jvm.MethodName) jdk_31_method_11_code (2 : Nat) (Option.some (Jvm.ClassFile.FieldType.object "java/lang/Object"))).before args0 about1 = true := code_word (m := ⟨12, 1⟩) (meth := k12m1) (c := k12c1) (by decide +kernel) rfl rfl rfl (by decide +kernel)
set_option maxRecDepth 65536 in
theorem w_c7 : (Jvm.Cond.code ({ cls := "java/util/Set", name := "of", desc := "()Ljava/util/Set;" } : Jvm.MethodName) jdk_96_method_17_code (0 : Nat) (Option.some (Jvm.ClassFile.FieldType.object "java/util/Set"))).before args0 about1 = true := code_word (m := ⟨15, 1⟩) (meth := k15m1) (c := k15c1) (by decide +kernel) rfl rfl rfl (by decide +kernel)
set_option maxRecDepth 65536 in
theorem w_c8 : (Jvm.Cond.code ({ cls := "com/example/stanza_filter/stanzafilter/engine/PrivacyItem", name := "<init>", desc := "(Lcom/example/stanza_filter/stanzafilter/engine/Jid;Ljava/lang/String;Lcom/example/stanza_filter/stanzafilter/engine/Subscription;Lcom/example/stanza_filter/stanzafilter/engine/Action;JLjava/util/Set;)V" } : Jvm.MethodName) prog_9_method_1_code (8 : Nat) (Option.none : Option Jvm.ClassFile.FieldType)).before args0 about1 = true := code_word (m := ⟨11, 0⟩) (meth := k11m0) (c := k11c0) (by decide +kernel) rfl rfl rfl (by decide +kernel)
set_option maxRecDepth 65536 in
theorem w_c9 : (Jvm.Cond.code ({ cls := "com/example/stanza_filter/stanzafilter/engine/PrivacyItem", name := "order", desc := "()J" } : Jvm.MethodName) prog_9_method_13_code (1 : Nat) (Option.some Jvm.ClassFile.FieldType.long)).before args0 about1 = true := code_word (m := ⟨11, 7⟩) (meth := k11m7) (c := k11c7) (by decide +kernel) rfl rfl rfl (by decide +kernel)
set_option maxRecDepth 65536 in
theorem w_c10 : (Jvm.Cond.code ({ cls := "com/example/stanza_filter/stanzafilter/engine/PrivacyItem", name := "action", desc := "()Lcom/example/stanza_filter/stanzafilter/engine/Action;" } : Jvm.MethodName) prog_9_method_12_code (1 : Nat) (Option.some (Jvm.ClassFile.FieldType.object "com/example/stanza_filter/stanzafilter/engine/Action"))).before args0 about1 = true := code_word (m := ⟨11, 6⟩) (meth := k11m6) (c := k11c6) (by decide +kernel) rfl rfl rfl (by decide +kernel)
set_option maxRecDepth 65536 in
theorem w_c11 : (Jvm.Cond.code ({ cls := "com/example/stanza_filter/stanzafilter/engine/PrivacyItem", name := "jid", desc := "()Lcom/example/stanza_filter/stanzafilter/engine/Jid;" } : Jvm.MethodName) prog_9_method_9_code (1 : Nat) (Option.some (Jvm.ClassFile.FieldType.object "com/example/stanza_filter/stanzafilter/engine/Jid"))).before args0 about1 = true := code_word (m := ⟨11, 3⟩) (meth := k11m3) (c := k11c3) (by decide +kernel) rfl rfl rfl (by decide +kernel)
set_option maxRecDepth 65536 in
theorem w_c12 : (Jvm.Cond.code ({ cls := "com/example/stanza_filter/stanzafilter/engine/PrivacyItem", name := "subscription", desc := "()Lcom/example/stanza_filter/stanzafilter/engine/Subscription;" } : Jvm.MethodName) prog_9_method_11_code (1 : Nat) (Option.some (Jvm.ClassFile.FieldType.object "com/example/stanza_filter/stanzafilter/engine/Subscription"))).before args0 about1 = true := code_word (m := ⟨11, 5⟩) (meth := k11m5) (c := k11c5) (by decide +kernel) rfl rfl rfl (by decide +kernel)
set_option maxRecDepth 65536 in
theorem w_c13 : (Jvm.Cond.code ({ cls := "com/example/stanza_filter/stanzafilter/engine/PrivacyItem", name := "group", desc := "()Ljava/lang/String;" } : Jvm.MethodName) prog_9_method_10_code (1 : Nat) (Option.some (Jvm.ClassFile.FieldType.object "java/lang/String"))).before args0 about1 = true := code_word (m := ⟨11, 4⟩) (meth := k11m4) (c := k11c4) (by decide +kernel) rfl rfl rfl (by decide +kernel)
set_option maxRecDepth 65536 in
theorem w_c14 : (Jvm.Cond.code ({ cls := "java/lang/String", name := "equals", desc := "(Ljava/lang/Object;)Z" } : Jvm.MethodName) jdk_42_method_66_code (3 : Nat) (Option.some Jvm.ClassFile.FieldType.boolean)).before args0 about1 = true := code_word (m := ⟨10, 2⟩) (meth := k10m2) (c := k10c2) (by decide +kernel) rfl rfl rfl (by decide +kernel)
set_option maxRecDepth 65536 in
theorem w_c15 : (Jvm.Cond.code ({ cls := "com/example/stanza_filter/stanzafilter/engine/PrivacyItem", name := "covers", desc := "(Lcom/example/stanza_filter/stanzafilter/engine/Scope;)Z" } : Jvm.MethodName) prog_9_method_15_code (2 : Nat) (Option.some Jvm.ClassFile.FieldType.boolean)).before args0 about1 = true := code_word (m := ⟨11, 8⟩) (meth := k11m8) (c := k11c8) (by decide +kernel) rfl rfl rfl (by decide +kernel)
set_option maxRecDepth 65536 in
theorem w_c16 : (Jvm.Cond.code ({ cls := "java/util/ImmutableCollections$SetN", name := "isEmpty", desc := "()Z" } : Jvm.MethodName) jdk_132_method_3_code (1 : Nat) (Option.some Jvm.ClassFile.FieldType.boolean)).before args0 about1 = true := code_word (m := ⟨20, 0⟩) (meth := k20m0) (c := k20c0) (by decide +kernel) rfl rfl rfl (by decide +kernel)
set_option maxRecDepth 65536 in
theorem w_c17 : (Jvm.Cond.code ({ cls := "com/example/stanza_filter/stanzafilter/engine/PrivacyItem", name := "isBlocklistEntry", desc := "()Z" } : Jvm.MethodName) prog_9_method_8_code (1 : Nat) (Option.some Jvm.ClassFile.FieldType.boolean)).before args0 about1 = true := code_word (m := ⟨11, 2⟩) (meth := k11m2) (c := k11c2) (by decide +kernel) rfl rfl rfl (by decide +kernel)
set_option maxRecDepth 65536 in
theorem w_c18 : (Jvm.Cond.code ({ cls := "java/lang/StringUTF16", name := "compress", desc := "([CII)[B" } : Jvm.MethodName) jdk_52_method_16_code (6 : Nat) (Option.some (Jvm.ClassFile.FieldType.array Jvm.ClassFile.FieldType.byte))).before args0 about1 = true := code_word (m := ⟨21, 2⟩) (meth := k21m2) (c := k21c2) (by decide +kernel) rfl rfl rfl (by decide +kernel)
set_option maxRecDepth 65536 in
theorem w_c19 : (Jvm.Cond.code ({ cls := "java/lang/StringUTF16", name := "compress", desc := "([CI[BII)I" } : Jvm.MethodName) jdk_52_method_21_code (7 : Nat) (Option.some Jvm.ClassFile.FieldType.int)).before args0 about1 = true := code_word (m := ⟨21, 3⟩) (meth := k21m3) (c := k21c3) (by decide +kernel) rfl rfl rfl (by decide +kernel)
set_option maxRecDepth 65536 in
theorem w_c20 : (Jvm.Cond.code ({ cls := "java/lang/StringUTF16", name := "coderFromArrayLen", desc := "([BI)B" } : Jvm.MethodName) jdk_52_method_15_code (2 : Nat) (Option.some Jvm.ClassFile.FieldType.byte)).before args0 about1 = true := code_word (m := ⟨21, 1⟩) (meth := k21m1) (c := k21c1) (by decide +kernel) rfl rfl rfl (by decide +kernel)
def codes1 : List Jvm.Cond := [Jvm.Cond.code x code maxLocals ret, Jvm.Cond.code ({ cls := "com/example/stanza_filter/stanzafilter/engine/PrivacyItemGroupPinLaw", name := "makeString", desc := "(ICCC)Ljava/lang/String;" } : Jvm.MethodName) method_3_code (5 : Nat) (Option.some (Jvm.ClassFile.FieldType.object "java/lang/String")), Jvm.Cond.code ({ cls := "java/lang/String", name := "<init>", desc := "([C)V" } : Jvm.MethodName) jdk_42_method_3_code (2 : Nat) (Option.none : Option Jvm.ClassFile.FieldType), Jvm.Cond.code ({ cls := "java/lang/String", name := "<init>", desc := "([CIILjava/lang/Void;)V" } : Jvm.MethodName) jdk_42_method_149_code (6 : Nat) (Option.none : Option Jvm.ClassFile.FieldType), Jvm.Cond.code ({ cls := "java/lang/Object", name := "<init>", desc := "()V" } : Jvm.MethodName) object_method_1_code (1 : Nat) (Option.none : Option Jvm.ClassFile.FieldType), Jvm.Cond.code ({ cls := "com/example/stanza_filter/stanzafilter/engine/PrivacyItem", name := "group", desc := "(Ljava/lang/String;Lcom/example/stanza_filter/stanzafilter/engine/Action;J)Lcom/example/stanza_filter/stanzafilter/engine/PrivacyItem;" } : Jvm.MethodName) prog_9_method_3_code (4 : Nat) (Option.some (Jvm.ClassFile.FieldType.object "com/example/stanza_filter/stanzafilter/engine/PrivacyItem")), Jvm.Cond.code ({ cls := "java/util/Objects", name := "requireNonNull", desc := "(Ljava/lang/Object;Ljava/lang/String;)Ljava/lang/Object;" } : Jvm.MethodName) jdk_31_method_11_code (2 : Nat) (Option.some (Jvm.ClassFile.FieldType.object "java/lang/Object")), Jvm.Cond.code ({ cls := "java/util/Set", name := "of", desc := "()Ljava/util/Set;" } : Jvm.MethodName) jdk_96_method_17_code (0 : Nat) (Option.some (Jvm.ClassFile.FieldType.object "java/util/Set")), Jvm.Cond.code ({ cls := "com/example/stanza_filter/stanzafilter/engine/PrivacyItem", name := "<init>", desc := "(Lcom/example/stanza_filter/stanzafilter/engine/Jid;Ljava/lang/String;Lcom/example/stanza_filter/stanzafilter/engine/Subscription;Lcom/example/stanza_filter/stanzafilter/engine/Action;JLjava/util/Set;)V" } : Jvm.MethodName) prog_9_method_1_code (8 : Nat) (Option.none : Option Jvm.ClassFile.FieldType), Jvm.Cond.code ({ cls := "com/example/stanza_filter/stanzafilter/engine/PrivacyItem", name := "order", desc := "()J" } : Jvm.MethodName) prog_9_method_13_code (1 : Nat) (Option.some Jvm.ClassFile.FieldType.long), Jvm.Cond.code ({ cls := "com/example/stanza_filter/stanzafilter/engine/PrivacyItem", name := "action", desc := "()Lcom/example/stanza_filter/stanzafilter/engine/Action;" } : Jvm.MethodName) prog_9_method_12_code (1 : Nat) (Option.some (Jvm.ClassFile.FieldType.object "com/example/stanza_filter/stanzafilter/engine/Action")), Jvm.Cond.code ({ cls := "com/example/stanza_filter/stanzafilter/engine/PrivacyItem", name := "jid", desc := "()Lcom/example/stanza_filter/stanzafilter/engine/Jid;" } : Jvm.MethodName) prog_9_method_9_code (1 : Nat) (Option.some (Jvm.ClassFile.FieldType.object "com/example/stanza_filter/stanzafilter/engine/Jid")), Jvm.Cond.code ({ cls := "com/example/stanza_filter/stanzafilter/engine/PrivacyItem", name := "subscription", desc := "()Lcom/example/stanza_filter/stanzafilter/engine/Subscription;" } : Jvm.MethodName) prog_9_method_11_code (1 : Nat) (Option.some (Jvm.ClassFile.FieldType.object "com/example/stanza_filter/stanzafilter/engine/Subscription")), Jvm.Cond.code ({ cls := "com/example/stanza_filter/stanzafilter/engine/PrivacyItem", name := "group", desc := "()Ljava/lang/String;" } : Jvm.MethodName) prog_9_method_10_code (1 : Nat) (Option.some (Jvm.ClassFile.FieldType.object "java/lang/String")), Jvm.Cond.code ({ cls := "java/lang/String", name := "equals", desc := "(Ljava/lang/Object;)Z" } : Jvm.MethodName) jdk_42_method_66_code (3 : Nat) (Option.some Jvm.ClassFile.FieldType.boolean), Jvm.Cond.code ({ cls := "com/example/stanza_filter/stanzafilter/engine/PrivacyItem", name := "covers", desc := "(Lcom/example/stanza_filter/stanzafilter/engine/Scope;)Z" } : Jvm.MethodName) prog_9_method_15_code (2 : Nat) (Option.some Jvm.ClassFile.FieldType.boolean), Jvm.Cond.code ({ cls := "java/util/ImmutableCollections$SetN", name := "isEmpty", desc := "()Z" } : Jvm.MethodName) jdk_132_method_3_code (1 : Nat) (Option.some Jvm.ClassFile.FieldType.boolean), Jvm.Cond.code ({ cls := "com/example/stanza_filter/stanzafilter/engine/PrivacyItem", name := "isBlocklistEntry", desc := "()Z" } : Jvm.MethodName) prog_9_method_8_code (1 : Nat) (Option.some Jvm.ClassFile.FieldType.boolean), Jvm.Cond.code ({ cls := "java/lang/StringUTF16", name := "compress", desc := "([CII)[B" } : Jvm.MethodName) jdk_52_method_16_code (6 : Nat) (Option.some (Jvm.ClassFile.FieldType.array Jvm.ClassFile.FieldType.byte)), Jvm.Cond.code ({ cls := "java/lang/StringUTF16", name := "compress", desc := "([CI[BII)I" } : Jvm.MethodName) jdk_52_method_21_code (7 : Nat) (Option.some Jvm.ClassFile.FieldType.int), Jvm.Cond.code ({ cls := "java/lang/StringUTF16", name := "coderFromArrayLen", desc := "([BI)B" } : Jvm.MethodName) jdk_52_method_15_code (2 : Nat) (Option.some Jvm.ClassFile.FieldType.byte)]
set_option maxRecDepth 65536 in
theorem codes_eq : words1.filter isCode = codes1 := rfl
theorem w_codes : ∀ c ∈ words1.filter isCode, c.before args0 about1 = true := by
  rw [codes_eq]
  intro c hc
  simp only [codes1, List.mem_cons, List.not_mem_nil, or_false] at hc
  rcases hc with rfl | rfl | rfl | rfl | rfl | rfl | rfl | rfl | rfl | rfl | rfl | rfl | rfl | rfl | rfl | rfl | rfl | rfl | rfl | rfl | rfl
  · exact w_c0
  · exact w_c1
  · exact w_c2
  · exact w_c3
  · exact w_c4
  · exact w_c5
  · exact w_c6
  · exact w_c7
  · exact w_c8
  · exact w_c9
  · exact w_c10
  · exact w_c11
  · exact w_c12
  · exact w_c13
  · exact w_c14
  · exact w_c15
  · exact w_c16
  · exact w_c17
  · exact w_c18
  · exact w_c19
  · exact w_c20
set_option maxRecDepth 65536 in
theorem w_t1 : (words1.take 24).all (fun c => isCode c || c.before args0 about1) = true := by decide +kernel
set_option maxRecDepth 65536 in
theorem w_t2 : ((words1.drop 24).take 24).all (fun c => isCode c || c.before args0 about1) = true := by decide +kernel
set_option maxRecDepth 65536 in
theorem w_t3 : (((words1.drop 24).drop 24).take 24).all (fun c => isCode c || c.before args0 about1) = true := by decide +kernel
set_option maxRecDepth 65536 in
theorem w_t4 : ((((words1.drop 24).drop 24).drop 24).take 24).all (fun c => isCode c || c.before args0 about1) = true := by decide +kernel
set_option maxRecDepth 65536 in
theorem w_t5 : (((((words1.drop 24).drop 24).drop 24).drop 24).take 24).all (fun c => isCode c || c.before args0 about1) = true := by decide +kernel
set_option maxRecDepth 65536 in
theorem w_t6 : (((((words1.drop 24).drop 24).drop 24).drop 24).drop 24).all (fun c => isCode c || c.before args0 about1) = true := by decide +kernel
theorem w_tables : (allAtoms (Jvm.Cond.code x code maxLocals ret :: tables_1)).before args0 about1 = true := by
  rw [allAtoms_all]
  show words1.all (fun c => c.before args0 about1) = true
  refine all_split ?_ w_codes
  rw [← List.take_append_drop 24 words1, List.all_append, w_t1, ← List.take_append_drop 24 (words1.drop 24), List.all_append, w_t2, ← List.take_append_drop 24 ((words1.drop 24).drop 24), List.all_append, w_t3, ← List.take_append_drop 24 (((words1.drop 24).drop 24).drop 24), List.all_append, w_t4, ← List.take_append_drop 24 ((((words1.drop 24).drop 24).drop 24).drop 24), List.all_append, w_t5, w_t6]
  rfl
set_option maxRecDepth 65536 in
theorem w_rest : rest_1_c.before args0 about1 = true := by decide +kernel
set_option maxRecDepth 65536 in
theorem w_case : (Jvm.Cond.and given_1 narrow_1).before args0 about1 = true := by decide +kernel
set_option maxRecDepth 65536 in
theorem w_consts : constsHeld consts_1 about1 := Jvm.Lit.constsHeldB_iff.mp (by decide +kernel)
theorem w_applies : (headSpec (Jvm.Cond.code x code maxLocals ret :: tables_1) room_1).applies x e0.platform about1 = true :=
  (Spec.applies_iff w_frames).mpr ⟨w_running, w_runnable, w_alone, w_named, w_hears, w_ripe, w_room, w_tables⟩
theorem atStart : AtStart classFile x code maxLocals ret World_1 tables_1 room_1 Calls_1 rest_1 Pre_1 launch0 p0 e0 about1 theMethod args0 below0 :=
  ⟨lists_1, trivial, launch0.admits_env _ _ _, launch0.least_env, fairChoices_fair.cas, fairChoices_fair.clock, w_frames, w_args, w_heap, w_applies, ⟨w_consts, trivial⟩, w_rest, w_case⟩
end start1
theorem witness_1 : WitnessClaimed_1 := ⟨start1.p0, start1.e0, start1.about1, start1.theMethod, start1.args0, start1.below0, start1.atStart⟩
end Jvm.Pilot.@@N@@
