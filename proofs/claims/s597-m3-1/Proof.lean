import JvmDerived
import JvmDerived.Pilot.@@N@@Statement
import JvmDerived.Pilot.@@N@@Code
set_option linter.unusedVariables false
set_option linter.unusedSimpArgs false
namespace Jvm.RoadKit
open Sem ClassFile Op Lib Jvm.Stand Jvm.Free Jvm.LawKit
section New
variable {p : Program} {l : Launch} {e : Env} {R : Room} {s : State} {m : MethodId} {args : Array Value} {below : List Frame} {meth : Method} {c : Code} {T : State} {locs : List Loc} {cells slots : Nat}
theorem retI (X : Stand p l e R s m args below meth c T locs cells slots) (hx : p.tables.exec = Jvm.exec) {pc : Nat} {Ls : Array Slot} {z : Int32} {rest : List Value} (hret : meth.sig.returnType = some .int) (hd : decode c.code pc = .ok (.ireturn, 1)) {fs : List Frame}
    (hl : ∀ (f : JFrame) (acts : List Action), f.method = m → f.locked = none → f.entered = [] → (doReturn e (T.setTop f) acts (some (.int z))).1 = T.setFrames fs) : Steps p.tables e below (T.setTop (mkF m pc Ls (.int z :: rest))) (T.setFrames fs) := by
  have hm' : T.vm.method? m = some meth := X.method'
  have hn : narrow .int (.int z) = .int z := rfl
  show Steps p.tables e below (T.setTop { method := m, pc := pc, locals := Ls, stack := _ :: rest, locked := none }) _
  jvm_step X.here [X.here.top, hx, hd, hm', hret, hn]
  first | (intro acts; rw [hl _ acts rfl rfl rfl]) | rw [hl _ _ rfl rfl rfl]
  exact Steps.refl _
end New
end Jvm.RoadKit
namespace Jvm.Pilot.@@N@@
open Jvm Jvm.ClassFile Sem Op Lib Jvm.Free Jvm.Stand Jvm.LawKit Jvm.RoadKit Bundle Jvm.Pilot.@@N@@.Jvm.D
/-! small facts of my own -/
theorem own_fld {args : Array Value} {s : State} {t : Term} {a : Addr} {C n d : String} {k : Int32} (ev : t.eval args s none [] s = some (.ref a)) (h : (Jvm.Cond.eq (.field t C n d) (.int k)).value args s none s [] = some true) : Fld s s.heap a C n d (.int k) := by
  refine Fld.start ?_
  have h2 : (Term.field t C n d).eval args s none [] s = s.fieldOf? a C n d := by simp [Term.eval, ev]
  obtain ⟨x, y, e1, e2, k1, k2⟩ := cmp_v (Or.inl h)
  have e3 : y = .int k := (Option.some.inj e2).symm
  subst e3
  obtain ⟨z, rfl⟩ := k2
  have e4 : z = k := by simpa [Jvm.Cond.value, e1, e2] using h
  rw [← h2, e1, e4]
theorem own_leT {k : Nat} {T : State} {h : Heap} (e : T.heap = h) (hk : k ≤ h.size) : k ≤ T.heap.size := by rw [e]; exact hk
theorem own_lcmp0 {x : Int64} : lcmpW x x = 0 := (lw_eq x x).mpr rfl
theorem own_lt {x j k : Int32} (h : x < j) (q : ¬ k < j) : x < k := by rw [Int32.lt_iff_toInt_lt] at *; omega
theorem own_gt {x j k : Int32} (h : j < x) (q : ¬ j < k) : k < x := by rw [Int32.lt_iff_toInt_lt] at *; omega
theorem own_nlt {x j k : Int32} (h : j < x) (q : ¬ j.toInt + 1 < k.toInt) : ¬ x < k := by rw [Int32.lt_iff_toInt_lt] at *; omega
theorem own_ngt {x j k : Int32} (h : x < j) (q : ¬ k.toInt + 1 < j.toInt) : ¬ k < x := by rw [Int32.lt_iff_toInt_lt] at *; omega
theorem own_nelo {x j k : Int32} (h : j < x) (q : ¬ j < k) : ¬ x = k := fun e => by subst e; exact q h
theorem own_nehi {x j k : Int32} (h : x < j) (q : ¬ k < j) : ¬ x = k := fun e => by subst e; exact q h
theorem own_ilt {x k : Int32} {z : Int} (e : k.toInt = z) (h : x.toInt < z) : x < k := by rw [Int32.lt_iff_toInt_lt, e]; exact h
theorem own_igt {x k : Int32} {z : Int} (e : k.toInt = z) (h : z < x.toInt) : k < x := by rw [Int32.lt_iff_toInt_lt, e]; exact h
theorem own_ne {Z : State} {h : Heap} {a b : Addr} {C n d : String} {v w : Value} (F : Fld Z h a C n d v) (G : Fld Z h b C n d w) (hn : v ≠ w) : ¬ (a = b) := fun e => by
  subst e
  obtain ⟨c1, f1, k1, i1, g1, h1, h2, -, -, -, -, h7⟩ := F
  obtain ⟨c2, f2, k2, i2, g2, j1, j2, -, -, -, -, j7⟩ := G
  cases h1.symm.trans j1
  cases h2.symm.trans j2
  exact hn (Option.some.inj (h7.symm.trans j7))

theorem own_sta_keep {Z : State} {h h' : Heap} {C n d : String} {v : Value} (F : Sta Z h C n d v) (K : Keep h h' []) : Sta Z h' C n d v := by
  obtain ⟨cf, i, k, f, st, cell, h1, h2, h3, h4, h5, r⟩ := F
  exact ⟨cf, i, k, f, st, cell, h1, h2, h3, h4, K.2.1 _ _ h5 nin0, r⟩
theorem own_sta_keep1 {Z : State} {h h' : Heap} {C n d K' : String} {v : Value} {b : Addr} (F : Sta Z h C n d v) (K : Keep h h' [b]) (E : Exa Z h b K') : Sta Z h' C n d v := by
  obtain ⟨cf, i, k, f, st, cell, h1, h2, h3, h4, h5, h6, r⟩ := F
  obtain ⟨c2, k2, e1, -, -, e4, -⟩ := E
  refine ⟨cf, i, k, f, st, cell, h1, h2, h3, h4, K.2.1 _ _ h5 (ninS (fun q => ?_) nin0), h6, r⟩
  subst q
  cases h5.symm.trans e1
  rw [h6] at e4; cases e4
section OwnArr
variable {p : Program} {l : Launch} {e : Env} {R : Room} {s : State} {m : MethodId} {args : Array Value} {below : List Frame} {meth : Method} {c : Code} {T : State} {locs : List Loc} {cells slots : Nat} {Z : State} {h : Heap}
theorem own_stI (X : Stand p l e R s m args below meth c T locs cells slots) (hx : p.tables.exec = Jvm.exec) (hZ : Z.Warmed39 s.vm) (eT : T.heap = h) {a : Addr} {k : ClassId} {z j x : Int32} {vs : List Value} {d : Value} (V : Arv Z h a k .int z vs d) (i : Nat) (hj : j.toNatClampNeg = i) (hin : ¬ j < 0 ∧ j < z) (hi : i < vs.length) {g : JFrame} (hg : g.method = m) {rest : List Value} (hs : g.stack = .int x :: .int j :: .ref a :: rest) (hd : decode c.code g.pc = .ok (.iastore, 1)) :
    ∃ T' h', Stand p l e R s m args below meth c T' (locs ++ [⟨a, j.toNatClampNeg⟩]) cells slots ∧ T'.heap = h' ∧ Wr h h' a j.toNatClampNeg (.int x) ∧ Arv Z h' a k .int z (vs.set i (.int x)) d ∧ ∀ target, Steps p.tables e below (T'.setTop { g with pc := g.pc + 1, stack := rest }) target → Steps p.tables e below (T.setTop g) target := by
  obtain ⟨cl, A, q1, S, q3, H, G⟩ := V
  obtain ⟨T', h', X', e', W, st⟩ := stI X hx hZ eT A (j := j) (inb_of S hin) hg hs hd
  exact ⟨T', h', X', e', W, Arv.set A q1 S q3 H G rfl W i hj hi, st⟩
theorem own_stR (X : Stand p l e R s m args below meth c T locs cells slots) (hx : p.tables.exec = Jvm.exec) (hZ : Z.Warmed39 s.vm) (eT : T.heap = h) {a y : Addr} {k : ClassId} {z j : Int32} {vs : List Value} {d : Value} {C : String} (V : Arv Z h a k (.object C) z vs d) (O : Ovr Z k C) (I : Ins Z h y C true) (i : Nat) (hj : j.toNatClampNeg = i) (hin : ¬ j < 0 ∧ j < z) (hi : i < vs.length) {g : JFrame} (hg : g.method = m) {rest : List Value} (hs : g.stack = .ref y :: .int j :: .ref a :: rest) (hd : decode c.code g.pc = .ok (.aastore, 1)) :
    ∃ T' h', Stand p l e R s m args below meth c T' (locs ++ [⟨a, j.toNatClampNeg⟩]) cells slots ∧ T'.heap = h' ∧ Wr h h' a j.toNatClampNeg (.ref y) ∧ Arv Z h' a k (.object C) z (vs.set i (.ref y)) d ∧ ∀ target, Steps p.tables e below (T'.setTop { g with pc := g.pc + 1, stack := rest }) target → Steps p.tables e below (T.setTop g) target := by
  obtain ⟨cl, A, q1, S, q3, H, G⟩ := V
  obtain ⟨T', h', X', e', W, st⟩ := stR X hx hZ eT A (j := j) (inb_of S hin) rfl (Sto.ofV A q1 O I) hg hs hd
  exact ⟨T', h', X', e', W, Arv.set A q1 S q3 H G rfl W i hj hi, st⟩
theorem own_ldI (X : Stand p l e R s m args below meth c T locs cells slots) (hx : p.tables.exec = Jvm.exec) (hZ : Z.Warmed39 s.vm) (eT : T.heap = h) {a : Addr} {k : ClassId} {z j : Int32} {vs : List Value} {d v : Value} (V : Arv Z h a k .int z vs d) (hin : ¬ j < 0 ∧ j < z) (hv : vs.getD j.toNatClampNeg d = v) {g : JFrame} (hg : g.method = m) {rest : List Value} (hs : g.stack = .int j :: .ref a :: rest) (hd : decode c.code g.pc = .ok (.iaload, 1)) :
    ∀ target, Steps p.tables e below (T.setTop { g with pc := g.pc + 1, stack := v :: rest }) target → Steps p.tables e below (T.setTop g) target := by
  obtain ⟨cl, A, q1, S, q3, H, G⟩ := V
  have hin' := inb_of S hin
  exact X.iaload hx (by rw [eT]; exact A.1) (State.isArrayOf_alike hZ.alike A.2.1) A.2.2 hin' (H.at hin' hv) hg hs hd
theorem own_ldR (X : Stand p l e R s m args below meth c T locs cells slots) (hx : p.tables.exec = Jvm.exec) (hZ : Z.Warmed39 s.vm) (eT : T.heap = h) {a : Addr} {k : ClassId} {z j : Int32} {vs : List Value} {d v : Value} {C : String} (V : Arv Z h a k (.object C) z vs d) (hin : ¬ j < 0 ∧ j < z) (hv : vs.getD j.toNatClampNeg d = v) {g : JFrame} (hg : g.method = m) {rest : List Value} (hs : g.stack = .int j :: .ref a :: rest) (hd : decode c.code g.pc = .ok (.aaload, 1)) :
    ∀ target, Steps p.tables e below (T.setTop { g with pc := g.pc + 1, stack := v :: rest }) target → Steps p.tables e below (T.setTop g) target := by
  obtain ⟨cl, A, q1, S, q3, H, G⟩ := V
  have hin' := inb_of S hin
  exact X.aaload hx (by rw [eT]; exact A.1) (State.isArrayOf_alike hZ.alike A.2.1) rfl A.2.2 hin' (H.at hin' hv) hg hs hd
end OwnArr

def own_d (x : Int32) : Int32 := if 48 ≤ x.toInt ∧ x.toInt ≤ 57 then 1 else 0
def own_s (x : Int32) : Int32 := if x.toInt = 9 ∨ x.toInt = 10 ∨ x.toInt = 12 ∨ x.toInt = 13 ∨ x.toInt = 32 then 1 else 0
def own_w (x : Int32) : Int32 := if (48 ≤ x.toInt ∧ x.toInt ≤ 57) ∨ (65 ≤ x.toInt ∧ x.toInt ≤ 90) ∨ x.toInt = 95 ∨ (97 ≤ x.toInt ∧ x.toInt ≤ 122) then 1 else 0
theorem own_fldR {args : Array Value} {s : State} {t : Term} {a : Addr} {C n d : String} {v : Value} (ev : t.eval args s none [] s = some (.ref a)) (h : (Term.field t C n d).eval args s none [] s = some v) : Fld s s.heap a C n d v := by
  refine Fld.start ?_
  have h2 : (Term.field t C n d).eval args s none [] s = s.fieldOf? a C n d := by simp [Term.eval, ev]
  rw [← h2, h]
theorem own_elI {args : Array Value} {s : State} {T : Term} {a : Addr} {cl : Cell} {ty : FieldType} {p v : Int32} (ev : T.eval args s none [] s = some (.ref a)) (A : Arr s s.heap a cl ty) (h : (Jvm.Cond.eq (.elem T (.int p)) (.int v)).value args s none s [] = some true) : cl.slots[p.toNatClampNeg]? = some (.int v) := by
  obtain ⟨x, y, e1, e2, k1, k2⟩ := cmp_v (Or.inl h)
  have e3 : y = .int v := (Option.some.inj e2).symm
  subst e3
  obtain ⟨z, rfl⟩ := k2
  have e4 : z = v := by simpa [Jvm.Cond.value, e1, e2] using h
  rw [← e4]
  exact (elem_in e1 ev (Term.int_eval _) A.1).2
theorem own_len0 {args : Array Value} {s : State} {T : Term} {a : Addr} {cl : Cell} {ty : FieldType} {v : Int32} (ev : T.eval args s none [] s = some (.ref a)) (A : Arr s s.heap a cl ty) (h : (Jvm.Cond.eq (.length T) (.int v)).value args s none s [] = some true) : cl.slots.size < 2 ^ 31 ∧ cl.slots.size.toInt32 = v := by
  have hA : s.arrayAt? a = some cl := A.fin (Vm.Alike.refl _)
  by_cases z : cl.slots.size < 2 ^ 31
  · exact ⟨z, gotT (Cond.eq_ints (len_f ev hA z) (Term.int_eval _)) h⟩
  · simp [Jvm.Cond.value, Term.eval, ev, hA, z] at h
theorem own_lenz {p : Program} {l : Launch} {e : Env} {R : Room} {s : State} {m : MethodId} {args : Array Value} {below : List Frame} {meth : Method} {c : Code} {T : State} {locs : List Loc} {cells slots : Nat} {Z : State} {h : Heap} (X : Stand p l e R s m args below meth c T locs cells slots) (hx : p.tables.exec = Jvm.exec) (hZ : Z.Warmed39 s.vm) (eT : T.heap = h) {a : Addr} {k : ClassId} {z : Int32} {ty : FieldType} {vs : List Value} {d : Value} (V : Arv Z h a k ty z vs d) {g : JFrame} (hg : g.method = m) {rest : List Value} (hs : g.stack = .ref a :: rest) (hd : decode c.code g.pc = .ok (.arraylength, 1)) :
    ∀ target, Steps p.tables e below (T.setTop { g with pc := g.pc + 1, stack := .int z :: rest }) target → Steps p.tables e below (T.setTop g) target := by
  obtain ⟨cl, A, q1, S, q3, H, G⟩ := V
  have q := X.arraylength hx (by rw [eT]; exact A.1) (State.isArrayOf_alike hZ.alike A.2.1) hg hs hd
  rw [len_of S q3] at q
  exact q

theorem d4_8 : decode jdk_65_method_59_code 8 = .ok (.iload 4, 2) := by decide +kernel
theorem d4_10 : decode jdk_65_method_59_code 10 = .ok (.iload 5, 2) := by decide +kernel
theorem d4_12 : decode jdk_65_method_59_code 12 = .ok (.if_icmp .gt 54, 3) := by decide +kernel
theorem d4_15 : decode jdk_65_method_59_code 15 = .ok (.iload 4, 2) := by decide +kernel
theorem d4_17 : decode jdk_65_method_59_code 17 = .ok (.iload 5, 2) := by decide +kernel
theorem d4_19 : decode jdk_65_method_59_code 19 = .ok (.iadd, 1) := by decide +kernel
theorem d4_20 : decode jdk_65_method_59_code 20 = .ok (.iconst 1, 1) := by decide +kernel
theorem d4_21 : decode jdk_65_method_59_code 21 = .ok (.iushr, 1) := by decide +kernel
theorem d4_22 : decode jdk_65_method_59_code 22 = .ok (.istore 6, 2) := by decide +kernel
theorem d4_24 : decode jdk_65_method_59_code 24 = .ok (.aload_n 0, 1) := by decide +kernel
theorem d4_25 : decode jdk_65_method_59_code 25 = .ok (.iload 6, 2) := by decide +kernel
theorem d4_27 : decode jdk_65_method_59_code 27 = .ok (.iaload, 1) := by decide +kernel
theorem d4_28 : decode jdk_65_method_59_code 28 = .ok (.istore 7, 2) := by decide +kernel
theorem d4_30 : decode jdk_65_method_59_code 30 = .ok (.iload 7, 2) := by decide +kernel
theorem d4_32 : decode jdk_65_method_59_code 32 = .ok (.iload_n 3, 1) := by decide +kernel
theorem d4_33 : decode jdk_65_method_59_code 33 = .ok (.if_icmp .ge 12, 3) := by decide +kernel
theorem d4_36 : decode jdk_65_method_59_code 36 = .ok (.iload 6, 2) := by decide +kernel
theorem d4_38 : decode jdk_65_method_59_code 38 = .ok (.iconst 1, 1) := by decide +kernel
theorem d4_39 : decode jdk_65_method_59_code 39 = .ok (.iadd, 1) := by decide +kernel
theorem d4_40 : decode jdk_65_method_59_code 40 = .ok (.istore 4, 2) := by decide +kernel
theorem d4_42 : decode jdk_65_method_59_code 42 = .ok (.goto 21, 3) := by decide +kernel
theorem d4_63 : decode jdk_65_method_59_code 63 = .ok (.goto (-55), 3) := by decide +kernel
theorem d4_45 : decode jdk_65_method_59_code 45 = .ok (.iload 7, 2) := by decide +kernel
theorem d4_47 : decode jdk_65_method_59_code 47 = .ok (.iload_n 3, 1) := by decide +kernel
theorem d4_48 : decode jdk_65_method_59_code 48 = .ok (.if_icmp .le 12, 3) := by decide +kernel
theorem d4_51 : decode jdk_65_method_59_code 51 = .ok (.iload 6, 2) := by decide +kernel
theorem d4_53 : decode jdk_65_method_59_code 53 = .ok (.iconst 1, 1) := by decide +kernel
theorem d4_54 : decode jdk_65_method_59_code 54 = .ok (.isub, 1) := by decide +kernel
theorem d4_55 : decode jdk_65_method_59_code 55 = .ok (.istore 5, 2) := by decide +kernel
theorem d4_57 : decode jdk_65_method_59_code 57 = .ok (.goto 6, 3) := by decide +kernel
theorem d2_0 : decode prog_19_method_4_code 0 = .ok (.aload_n 0, 1) := by decide +kernel
theorem d2_1 : decode prog_19_method_4_code 1 = .ok (.getfield 7, 3) := by decide +kernel
theorem d2_4 : decode prog_19_method_4_code 4 = .ok (.iload_n 1, 1) := by decide +kernel
theorem d2_5 : decode prog_19_method_4_code 5 = .ok (.invokestatic 42, 3) := by decide +kernel
theorem d3_0 : decode jdk_65_method_57_code 0 = .ok (.aload_n 0, 1) := by decide +kernel
theorem d3_1 : decode jdk_65_method_57_code 1 = .ok (.iconst 0, 1) := by decide +kernel
theorem d3_2 : decode jdk_65_method_57_code 2 = .ok (.aload_n 0, 1) := by decide +kernel
theorem d3_3 : decode jdk_65_method_57_code 3 = .ok (.arraylength, 1) := by decide +kernel
theorem d3_4 : decode jdk_65_method_57_code 4 = .ok (.iload_n 1, 1) := by decide +kernel
theorem d3_5 : decode jdk_65_method_57_code 5 = .ok (.invokestatic 209, 3) := by decide +kernel
theorem d4_0 : decode jdk_65_method_59_code 0 = .ok (.iload_n 1, 1) := by decide +kernel
theorem d4_1 : decode jdk_65_method_59_code 1 = .ok (.istore 4, 2) := by decide +kernel
theorem d4_3 : decode jdk_65_method_59_code 3 = .ok (.iload_n 2, 1) := by decide +kernel
theorem d4_4 : decode jdk_65_method_59_code 4 = .ok (.iconst 1, 1) := by decide +kernel
theorem d4_5 : decode jdk_65_method_59_code 5 = .ok (.isub, 1) := by decide +kernel
theorem d4_6 : decode jdk_65_method_59_code 6 = .ok (.istore 5, 2) := by decide +kernel
theorem d4_66 : decode jdk_65_method_59_code 66 = .ok (.iload 4, 2) := by decide +kernel
theorem d4_68 : decode jdk_65_method_59_code 68 = .ok (.iconst 1, 1) := by decide +kernel
theorem d4_69 : decode jdk_65_method_59_code 69 = .ok (.iadd, 1) := by decide +kernel
theorem d4_70 : decode jdk_65_method_59_code 70 = .ok (.ineg, 1) := by decide +kernel
theorem d4_71 : decode jdk_65_method_59_code 71 = .ok (.ireturn, 1) := by decide +kernel
theorem pn_4 : plainName "java/util/Arrays" = true := by first | (simp [plainName, overriddenIn]; done) | decide +kernel
theorem pd___IIII_I : parseMethodDescriptor "([IIII)I" = some ⟨[(.array .int), .int, .int, .int], some .int⟩ := by decide +kernel
theorem d3_8 : decode jdk_65_method_57_code 8 = .ok (.ireturn, 1) := by decide +kernel
theorem pn_3 : plainName "java/util/Arrays" = true := by first | (simp [plainName, overriddenIn]; done) | decide +kernel
theorem pd___II_I : parseMethodDescriptor "([II)I" = some ⟨[(.array .int), .int], some .int⟩ := by decide +kernel
theorem d2_8 : decode prog_19_method_4_code 8 = .ok (.istore_n 2, 1) := by decide +kernel
theorem d2_9 : decode prog_19_method_4_code 9 = .ok (.iload_n 2, 1) := by decide +kernel
theorem d2_10 : decode prog_19_method_4_code 10 = .ok (.ifCond .ge 13, 3) := by decide +kernel
theorem d2_13 : decode prog_19_method_4_code 13 = .ok (.iload_n 2, 1) := by decide +kernel
theorem d2_14 : decode prog_19_method_4_code 14 = .ok (.ineg, 1) := by decide +kernel
theorem d2_15 : decode prog_19_method_4_code 15 = .ok (.iconst 1, 1) := by decide +kernel
theorem d2_16 : decode prog_19_method_4_code 16 = .ok (.isub, 1) := by decide +kernel
theorem d2_17 : decode prog_19_method_4_code 17 = .ok (.iconst 2, 1) := by decide +kernel
theorem d2_18 : decode prog_19_method_4_code 18 = .ok (.irem, 1) := by decide +kernel
theorem d2_19 : decode prog_19_method_4_code 19 = .ok (.iconst 1, 1) := by decide +kernel
theorem d2_20 : decode prog_19_method_4_code 20 = .ok (.if_icmp .ne 7, 3) := by decide +kernel
theorem d2_27 : decode prog_19_method_4_code 27 = .ok (.iconst 0, 1) := by decide +kernel
theorem d2_28 : decode prog_19_method_4_code 28 = .ok (.ireturn, 1) := by decide +kernel
theorem pn_2 : plainName "com/example/termwell/termwell/core/text/CodePointSet" = true := by first | (simp [plainName, overriddenIn]; done) | decide +kernel
theorem d4_60 : decode jdk_65_method_59_code 60 = .ok (.iload 6, 2) := by decide +kernel
theorem d4_62 : decode jdk_65_method_59_code 62 = .ok (.ireturn, 1) := by decide +kernel
theorem d2_23 : decode prog_19_method_4_code 23 = .ok (.iconst 1, 1) := by decide +kernel
theorem d2_24 : decode prog_19_method_4_code 24 = .ok (.goto 4, 3) := by decide +kernel
theorem d5_0 : decode method_2_code 0 = .ok (.iload_n 0, 1) := by decide +kernel
theorem d5_1 : decode method_2_code 1 = .ok (.ifCond .ne 21, 3) := by decide +kernel
theorem d5_4 : decode method_2_code 4 = .ok (.iload_n 1, 1) := by decide +kernel
theorem d5_5 : decode method_2_code 5 = .ok (.bipush 48, 2) := by decide +kernel
theorem d5_7 : decode method_2_code 7 = .ok (.if_icmp .lt 13, 3) := by decide +kernel
theorem d5_20 : decode method_2_code 20 = .ok (.iconst 0, 1) := by decide +kernel
theorem d5_21 : decode method_2_code 21 = .ok (.ireturn, 1) := by decide +kernel
theorem pn_5 : plainName "com/example/termwell/termwell/core/text/CharClassesPerlPinLaw" = true := by first | (simp [plainName, overriddenIn]; done) | decide +kernel
theorem d5_10 : decode method_2_code 10 = .ok (.iload_n 1, 1) := by decide +kernel
theorem d5_11 : decode method_2_code 11 = .ok (.bipush 57, 2) := by decide +kernel
theorem d5_13 : decode method_2_code 13 = .ok (.if_icmp .gt 7, 3) := by decide +kernel
theorem d5_16 : decode method_2_code 16 = .ok (.iconst 1, 1) := by decide +kernel
theorem d5_17 : decode method_2_code 17 = .ok (.goto 4, 3) := by decide +kernel
theorem d1_0 : decode prog_15_method_2_code 0 = .ok (.iload_n 0, 1) := by decide +kernel
theorem d1_1 : decode prog_15_method_2_code 1 = .ok (.lookupswitch 53 #[(100, 35), (115, 41), (119, 47)], 35) := by decide +kernel
theorem d1_36 : decode prog_15_method_2_code 36 = .ok (.getstatic 7, 3) := by decide +kernel
theorem d1_39 : decode prog_15_method_2_code 39 = .ok (.goto 29, 3) := by decide +kernel
theorem d1_68 : decode prog_15_method_2_code 68 = .ok (.areturn, 1) := by decide +kernel
theorem pn_1 : plainName "com/example/termwell/termwell/core/text/CharClasses" = true := by first | (simp [plainName, overriddenIn]; done) | decide +kernel
theorem pd__C_Lcom_example_termwell_termwell_core_text_CodePointSet_ : parseMethodDescriptor "(C)Lcom/example/termwell/termwell/core/text/CodePointSet;" = some ⟨[.char], some (.object "com/example/termwell/termwell/core/text/CodePointSet")⟩ := by decide +kernel
theorem pd__I_Z : parseMethodDescriptor "(I)Z" = some ⟨[.int], some .boolean⟩ := by decide +kernel
theorem pd__II_Z : parseMethodDescriptor "(II)Z" = some ⟨[.int, .int], some .boolean⟩ := by decide +kernel
theorem pn_0 : plainName "com/example/termwell/termwell/core/text/CharClassesPerlPinLaw" = true := by first | (simp [plainName, overriddenIn]; done) | decide +kernel
theorem d5_22 : decode method_2_code 22 = .ok (.iload_n 0, 1) := by decide +kernel
theorem d5_23 : decode method_2_code 23 = .ok (.iconst 1, 1) := by decide +kernel
theorem d5_24 : decode method_2_code 24 = .ok (.if_icmp .ne 39, 3) := by decide +kernel
theorem d5_27 : decode method_2_code 27 = .ok (.iload_n 1, 1) := by decide +kernel
theorem d5_28 : decode method_2_code 28 = .ok (.bipush 9, 2) := by decide +kernel
theorem d5_30 : decode method_2_code 30 = .ok (.if_icmp .eq 27, 3) := by decide +kernel
theorem d5_33 : decode method_2_code 33 = .ok (.iload_n 1, 1) := by decide +kernel
theorem d5_34 : decode method_2_code 34 = .ok (.bipush 10, 2) := by decide +kernel
theorem d5_36 : decode method_2_code 36 = .ok (.if_icmp .eq 21, 3) := by decide +kernel
theorem d5_39 : decode method_2_code 39 = .ok (.iload_n 1, 1) := by decide +kernel
theorem d5_40 : decode method_2_code 40 = .ok (.bipush 12, 2) := by decide +kernel
theorem d5_42 : decode method_2_code 42 = .ok (.if_icmp .eq 15, 3) := by decide +kernel
theorem d5_45 : decode method_2_code 45 = .ok (.iload_n 1, 1) := by decide +kernel
theorem d5_46 : decode method_2_code 46 = .ok (.bipush 13, 2) := by decide +kernel
theorem d5_48 : decode method_2_code 48 = .ok (.if_icmp .eq 9, 3) := by decide +kernel
theorem d5_51 : decode method_2_code 51 = .ok (.iload_n 1, 1) := by decide +kernel
theorem d5_52 : decode method_2_code 52 = .ok (.bipush 32, 2) := by decide +kernel
theorem d5_54 : decode method_2_code 54 = .ok (.if_icmp .ne 7, 3) := by decide +kernel
theorem d5_61 : decode method_2_code 61 = .ok (.iconst 0, 1) := by decide +kernel
theorem d5_62 : decode method_2_code 62 = .ok (.ireturn, 1) := by decide +kernel
theorem d5_57 : decode method_2_code 57 = .ok (.iconst 1, 1) := by decide +kernel
theorem d5_58 : decode method_2_code 58 = .ok (.goto 4, 3) := by decide +kernel
theorem d1_42 : decode prog_15_method_2_code 42 = .ok (.getstatic 13, 3) := by decide +kernel
theorem d1_45 : decode prog_15_method_2_code 45 = .ok (.goto 23, 3) := by decide +kernel
theorem d5_63 : decode method_2_code 63 = .ok (.iload_n 1, 1) := by decide +kernel
theorem d5_64 : decode method_2_code 64 = .ok (.bipush 48, 2) := by decide +kernel
theorem d5_66 : decode method_2_code 66 = .ok (.if_icmp .lt 9, 3) := by decide +kernel
theorem d5_75 : decode method_2_code 75 = .ok (.iload_n 1, 1) := by decide +kernel
theorem d5_76 : decode method_2_code 76 = .ok (.bipush 65, 2) := by decide +kernel
theorem d5_78 : decode method_2_code 78 = .ok (.if_icmp .lt 9, 3) := by decide +kernel
theorem d5_87 : decode method_2_code 87 = .ok (.iload_n 1, 1) := by decide +kernel
theorem d5_88 : decode method_2_code 88 = .ok (.bipush 95, 2) := by decide +kernel
theorem d5_90 : decode method_2_code 90 = .ok (.if_icmp .eq 15, 3) := by decide +kernel
theorem d5_93 : decode method_2_code 93 = .ok (.iload_n 1, 1) := by decide +kernel
theorem d5_94 : decode method_2_code 94 = .ok (.bipush 97, 2) := by decide +kernel
theorem d5_96 : decode method_2_code 96 = .ok (.if_icmp .lt 13, 3) := by decide +kernel
theorem d5_109 : decode method_2_code 109 = .ok (.iconst 0, 1) := by decide +kernel
theorem d5_110 : decode method_2_code 110 = .ok (.ireturn, 1) := by decide +kernel
theorem d5_69 : decode method_2_code 69 = .ok (.iload_n 1, 1) := by decide +kernel
theorem d5_70 : decode method_2_code 70 = .ok (.bipush 57, 2) := by decide +kernel
theorem d5_72 : decode method_2_code 72 = .ok (.if_icmp .le 33, 3) := by decide +kernel
theorem d5_105 : decode method_2_code 105 = .ok (.iconst 1, 1) := by decide +kernel
theorem d5_106 : decode method_2_code 106 = .ok (.goto 4, 3) := by decide +kernel
theorem d5_81 : decode method_2_code 81 = .ok (.iload_n 1, 1) := by decide +kernel
theorem d5_82 : decode method_2_code 82 = .ok (.bipush 90, 2) := by decide +kernel
theorem d5_84 : decode method_2_code 84 = .ok (.if_icmp .le 21, 3) := by decide +kernel
theorem d5_99 : decode method_2_code 99 = .ok (.iload_n 1, 1) := by decide +kernel
theorem d5_100 : decode method_2_code 100 = .ok (.bipush 122, 2) := by decide +kernel
theorem d5_102 : decode method_2_code 102 = .ok (.if_icmp .gt 7, 3) := by decide +kernel
theorem d1_48 : decode prog_15_method_2_code 48 = .ok (.getstatic 16, 3) := by decide +kernel
theorem d1_51 : decode prog_15_method_2_code 51 = .ok (.goto 17, 3) := by decide +kernel
theorem own_split3 {x : Int32} (h0 : 0 ≤ x.toInt) (h1 : x.toInt < 3) : x = (0 : Int32) ∨ x = (1 : Int32) ∨ x = (2 : Int32) := by
  have h : x.toInt = 0 ∨ x.toInt = 1 ∨ x.toInt = 2 := by omega
  rcases h with h | h | h
  · exact Or.inl (Int32.toInt_inj.mp (h.trans (by decide)))
  · exact Or.inr (Or.inl (Int32.toInt_inj.mp (h.trans (by decide))))
  · exact Or.inr (Or.inr (Int32.toInt_inj.mp (h.trans (by decide))))
set_option maxRecDepth 65536 in
set_option maxHeartbeats 40000000 in
theorem tnLu {p : Program} {l : Launch} {e : Env} {R : Room} {s : State} {m : MethodId} {args : Array Value} {below : List Frame} {meth : Method} {c : Code} {T0 : State} {locs : List Loc} {cells slots : Nat} {Z : State} {h0 : Heap} (o : Addr) (f0 : Int32) (t0 : Int32) (x : Int32) (lo : Int32) (hi : Int32) (mid : Int32) (k : ClassId) (n : Int32) (vs : List Value) (d : Value) (w : Int32) (z2 : Int32)
    (X0 : Stand p l e R s m args below meth c T0 locs cells slots) (hx : p.tables.exec = Jvm.exec) (hZ : Z.Warmed39 s.vm) (hby : c.code = jdk_65_method_59_code) (e0 : T0.heap = h0) (hc12 : ¬ (hi < lo)) (hmid : (((lo + hi).toUInt32 >>> ((1 : Int32) &&& 31).toUInt32).toInt32) = mid) (V : Arv Z h0 o k .int n vs d) (hin : ¬ mid < 0 ∧ mid < n) (hv : vs.getD (mid).toNatClampNeg d = (.int w)) (hc33 : w < x) (hz2 : (mid + (1 : Int32)) = z2) :
    ∀ target, Steps p.tables e below (T0.setTop (mkF m 8 #[.val (.ref o), .val (.int f0), .val (.int t0), .val (.int x), .val (.int z2), .val (.int hi), .val (.int mid), .val (.int w)] [])) target → Steps p.tables e below (T0.setTop (mkF m 8 #[.val (.ref o), .val (.int f0), .val (.int t0), .val (.int x), .val (.int lo), .val (.int hi), .unset, .unset] [])) target := fun target kt => by
  show Steps p.tables e below (T0.setTop (mkF m 8 #[.val (.ref o), .val (.int f0), .val (.int t0), .val (.int x), .val (.int lo), .val (.int hi), .unset, .unset] [])) _
  refine XS.iload X0.here hx rfl (hb hby d4_8) rfl ?_
  show Steps p.tables e below (T0.setTop (mkF m 10 #[.val (.ref o), .val (.int f0), .val (.int t0), .val (.int x), .val (.int lo), .val (.int hi), .unset, .unset] [(.int lo)])) _
  refine XS.iload X0.here hx rfl (hb hby d4_10) rfl ?_
  show Steps p.tables e below (T0.setTop (mkF m 12 #[.val (.ref o), .val (.int f0), .val (.int t0), .val (.int x), .val (.int lo), .val (.int hi), .unset, .unset] [(.int hi), (.int lo)])) _
  refine XS.icmpNo X0.here hx rfl (hb hby d4_12) rfl (flt hc12).2.2.1 ?_
  show Steps p.tables e below (T0.setTop (mkF m 15 #[.val (.ref o), .val (.int f0), .val (.int t0), .val (.int x), .val (.int lo), .val (.int hi), .unset, .unset] [])) _
  refine XS.iload X0.here hx rfl (hb hby d4_15) rfl ?_
  show Steps p.tables e below (T0.setTop (mkF m 17 #[.val (.ref o), .val (.int f0), .val (.int t0), .val (.int x), .val (.int lo), .val (.int hi), .unset, .unset] [(.int lo)])) _
  refine XS.iload X0.here hx rfl (hb hby d4_17) rfl ?_
  show Steps p.tables e below (T0.setTop (mkF m 19 #[.val (.ref o), .val (.int f0), .val (.int t0), .val (.int x), .val (.int lo), .val (.int hi), .unset, .unset] [(.int hi), (.int lo)])) _
  refine XS.iadd X0.here hx rfl (hb hby d4_19) rfl ?_
  show Steps p.tables e below (T0.setTop (mkF m 20 #[.val (.ref o), .val (.int f0), .val (.int t0), .val (.int x), .val (.int lo), .val (.int hi), .unset, .unset] [(.int (lo + hi))])) _
  refine XS.iconst X0.here hx rfl (hb hby d4_20) ?_
  show Steps p.tables e below (T0.setTop (mkF m 21 #[.val (.ref o), .val (.int f0), .val (.int t0), .val (.int x), .val (.int lo), .val (.int hi), .unset, .unset] [(.int 1), (.int (lo + hi))])) _
  refine XS.iushr X0.here hx rfl (hb hby d4_21) rfl ?_
  show Steps p.tables e below (T0.setTop (mkF m 22 #[.val (.ref o), .val (.int f0), .val (.int t0), .val (.int x), .val (.int lo), .val (.int hi), .unset, .unset] [(.int (((lo + hi).toUInt32 >>> ((1 : Int32) &&& 31).toUInt32).toInt32))])) _
  rw [hmid]
  show Steps p.tables e below (T0.setTop (mkF m 22 #[.val (.ref o), .val (.int f0), .val (.int t0), .val (.int x), .val (.int lo), .val (.int hi), .unset, .unset] [(.int mid)])) _
  refine XS.istore X0.here hx rfl (hb hby d4_22) rfl (l' := #[.val (.ref o), .val (.int f0), .val (.int t0), .val (.int x), .val (.int lo), .val (.int hi), .val (.int mid), .unset]) rfl ?_
  show Steps p.tables e below (T0.setTop (mkF m 24 #[.val (.ref o), .val (.int f0), .val (.int t0), .val (.int x), .val (.int lo), .val (.int hi), .val (.int mid), .unset] [])) _
  refine XS.aloadN X0.here hx rfl (hb hby d4_24) rfl rfl ?_
  show Steps p.tables e below (T0.setTop (mkF m 25 #[.val (.ref o), .val (.int f0), .val (.int t0), .val (.int x), .val (.int lo), .val (.int hi), .val (.int mid), .unset] [(.ref o)])) _
  refine XS.iload X0.here hx rfl (hb hby d4_25) rfl ?_
  show Steps p.tables e below (T0.setTop (mkF m 27 #[.val (.ref o), .val (.int f0), .val (.int t0), .val (.int x), .val (.int lo), .val (.int hi), .val (.int mid), .unset] [(.int mid), (.ref o)])) _
  refine own_ldI X0 hx hZ e0 V (j := mid) hin hv (g := (mkF m 27 #[.val (.ref o), .val (.int f0), .val (.int t0), .val (.int x), .val (.int lo), .val (.int hi), .val (.int mid), .unset] [(.int mid), (.ref o)])) rfl rfl (hb hby d4_27) _ ?_
  show Steps p.tables e below (T0.setTop (mkF m 28 #[.val (.ref o), .val (.int f0), .val (.int t0), .val (.int x), .val (.int lo), .val (.int hi), .val (.int mid), .unset] [(.int w)])) _
  refine XS.istore X0.here hx rfl (hb hby d4_28) rfl (l' := #[.val (.ref o), .val (.int f0), .val (.int t0), .val (.int x), .val (.int lo), .val (.int hi), .val (.int mid), .val (.int w)]) rfl ?_
  show Steps p.tables e below (T0.setTop (mkF m 30 #[.val (.ref o), .val (.int f0), .val (.int t0), .val (.int x), .val (.int lo), .val (.int hi), .val (.int mid), .val (.int w)] [])) _
  refine XS.iload X0.here hx rfl (hb hby d4_30) rfl ?_
  show Steps p.tables e below (T0.setTop (mkF m 32 #[.val (.ref o), .val (.int f0), .val (.int t0), .val (.int x), .val (.int lo), .val (.int hi), .val (.int mid), .val (.int w)] [(.int w)])) _
  refine XS.iloadN X0.here hx rfl (hb hby d4_32) rfl ?_
  show Steps p.tables e below (T0.setTop (mkF m 33 #[.val (.ref o), .val (.int f0), .val (.int t0), .val (.int x), .val (.int lo), .val (.int hi), .val (.int mid), .val (.int w)] [(.int x), (.int w)])) _
  refine XS.icmpNo X0.here hx rfl (hb hby d4_33) rfl (tlt hc33).2.1 ?_
  show Steps p.tables e below (T0.setTop (mkF m 36 #[.val (.ref o), .val (.int f0), .val (.int t0), .val (.int x), .val (.int lo), .val (.int hi), .val (.int mid), .val (.int w)] [])) _
  refine XS.iload X0.here hx rfl (hb hby d4_36) rfl ?_
  show Steps p.tables e below (T0.setTop (mkF m 38 #[.val (.ref o), .val (.int f0), .val (.int t0), .val (.int x), .val (.int lo), .val (.int hi), .val (.int mid), .val (.int w)] [(.int mid)])) _
  refine XS.iconst X0.here hx rfl (hb hby d4_38) ?_
  show Steps p.tables e below (T0.setTop (mkF m 39 #[.val (.ref o), .val (.int f0), .val (.int t0), .val (.int x), .val (.int lo), .val (.int hi), .val (.int mid), .val (.int w)] [(.int 1), (.int mid)])) _
  refine XS.iadd X0.here hx rfl (hb hby d4_39) rfl ?_
  show Steps p.tables e below (T0.setTop (mkF m 40 #[.val (.ref o), .val (.int f0), .val (.int t0), .val (.int x), .val (.int lo), .val (.int hi), .val (.int mid), .val (.int w)] [(.int (mid + (1 : Int32)))])) _
  rw [hz2]
  show Steps p.tables e below (T0.setTop (mkF m 40 #[.val (.ref o), .val (.int f0), .val (.int t0), .val (.int x), .val (.int lo), .val (.int hi), .val (.int mid), .val (.int w)] [(.int z2)])) _
  refine XS.istore X0.here hx rfl (hb hby d4_40) rfl (l' := #[.val (.ref o), .val (.int f0), .val (.int t0), .val (.int x), .val (.int z2), .val (.int hi), .val (.int mid), .val (.int w)]) rfl ?_
  show Steps p.tables e below (T0.setTop (mkF m 42 #[.val (.ref o), .val (.int f0), .val (.int t0), .val (.int x), .val (.int z2), .val (.int hi), .val (.int mid), .val (.int w)] [])) _
  refine XS.goto X0.here hx rfl (pc0 := 42) (pc' := 63) rfl (hb hby d4_42) (by decide) (by decide) ?_
  show Steps p.tables e below (T0.setTop (mkF m 63 #[.val (.ref o), .val (.int f0), .val (.int t0), .val (.int x), .val (.int z2), .val (.int hi), .val (.int mid), .val (.int w)] [])) _
  refine XS.goto X0.here hx rfl (pc0 := 63) (pc' := 8) rfl (hb hby d4_63) (by decide) (by decide) ?_
  show Steps p.tables e below (T0.setTop (mkF m 8 #[.val (.ref o), .val (.int f0), .val (.int t0), .val (.int x), .val (.int z2), .val (.int hi), .val (.int mid), .val (.int w)] [])) _
  exact kt
set_option maxRecDepth 65536 in
set_option maxHeartbeats 40000000 in
theorem tnGu {p : Program} {l : Launch} {e : Env} {R : Room} {s : State} {m : MethodId} {args : Array Value} {below : List Frame} {meth : Method} {c : Code} {T0 : State} {locs : List Loc} {cells slots : Nat} {Z : State} {h0 : Heap} (o : Addr) (f0 : Int32) (t0 : Int32) (x : Int32) (lo : Int32) (hi : Int32) (mid : Int32) (k : ClassId) (n : Int32) (vs : List Value) (d : Value) (w : Int32) (z2 : Int32)
    (X0 : Stand p l e R s m args below meth c T0 locs cells slots) (hx : p.tables.exec = Jvm.exec) (hZ : Z.Warmed39 s.vm) (hby : c.code = jdk_65_method_59_code) (e0 : T0.heap = h0) (hc12 : ¬ (hi < lo)) (hmid : (((lo + hi).toUInt32 >>> ((1 : Int32) &&& 31).toUInt32).toInt32) = mid) (V : Arv Z h0 o k .int n vs d) (hin : ¬ mid < 0 ∧ mid < n) (hv : vs.getD (mid).toNatClampNeg d = (.int w)) (hc33 : ¬ (w < x)) (hc48 : x < w) (hz2 : (mid - (1 : Int32)) = z2) :
    ∀ target, Steps p.tables e below (T0.setTop (mkF m 8 #[.val (.ref o), .val (.int f0), .val (.int t0), .val (.int x), .val (.int lo), .val (.int z2), .val (.int mid), .val (.int w)] [])) target → Steps p.tables e below (T0.setTop (mkF m 8 #[.val (.ref o), .val (.int f0), .val (.int t0), .val (.int x), .val (.int lo), .val (.int hi), .unset, .unset] [])) target := fun target kt => by
  show Steps p.tables e below (T0.setTop (mkF m 8 #[.val (.ref o), .val (.int f0), .val (.int t0), .val (.int x), .val (.int lo), .val (.int hi), .unset, .unset] [])) _
  refine XS.iload X0.here hx rfl (hb hby d4_8) rfl ?_
  show Steps p.tables e below (T0.setTop (mkF m 10 #[.val (.ref o), .val (.int f0), .val (.int t0), .val (.int x), .val (.int lo), .val (.int hi), .unset, .unset] [(.int lo)])) _
  refine XS.iload X0.here hx rfl (hb hby d4_10) rfl ?_
  show Steps p.tables e below (T0.setTop (mkF m 12 #[.val (.ref o), .val (.int f0), .val (.int t0), .val (.int x), .val (.int lo), .val (.int hi), .unset, .unset] [(.int hi), (.int lo)])) _
  refine XS.icmpNo X0.here hx rfl (hb hby d4_12) rfl (flt hc12).2.2.1 ?_
  show Steps p.tables e below (T0.setTop (mkF m 15 #[.val (.ref o), .val (.int f0), .val (.int t0), .val (.int x), .val (.int lo), .val (.int hi), .unset, .unset] [])) _
  refine XS.iload X0.here hx rfl (hb hby d4_15) rfl ?_
  show Steps p.tables e below (T0.setTop (mkF m 17 #[.val (.ref o), .val (.int f0), .val (.int t0), .val (.int x), .val (.int lo), .val (.int hi), .unset, .unset] [(.int lo)])) _
  refine XS.iload X0.here hx rfl (hb hby d4_17) rfl ?_
  show Steps p.tables e below (T0.setTop (mkF m 19 #[.val (.ref o), .val (.int f0), .val (.int t0), .val (.int x), .val (.int lo), .val (.int hi), .unset, .unset] [(.int hi), (.int lo)])) _
  refine XS.iadd X0.here hx rfl (hb hby d4_19) rfl ?_
  show Steps p.tables e below (T0.setTop (mkF m 20 #[.val (.ref o), .val (.int f0), .val (.int t0), .val (.int x), .val (.int lo), .val (.int hi), .unset, .unset] [(.int (lo + hi))])) _
  refine XS.iconst X0.here hx rfl (hb hby d4_20) ?_
  show Steps p.tables e below (T0.setTop (mkF m 21 #[.val (.ref o), .val (.int f0), .val (.int t0), .val (.int x), .val (.int lo), .val (.int hi), .unset, .unset] [(.int 1), (.int (lo + hi))])) _
  refine XS.iushr X0.here hx rfl (hb hby d4_21) rfl ?_
  show Steps p.tables e below (T0.setTop (mkF m 22 #[.val (.ref o), .val (.int f0), .val (.int t0), .val (.int x), .val (.int lo), .val (.int hi), .unset, .unset] [(.int (((lo + hi).toUInt32 >>> ((1 : Int32) &&& 31).toUInt32).toInt32))])) _
  rw [hmid]
  show Steps p.tables e below (T0.setTop (mkF m 22 #[.val (.ref o), .val (.int f0), .val (.int t0), .val (.int x), .val (.int lo), .val (.int hi), .unset, .unset] [(.int mid)])) _
  refine XS.istore X0.here hx rfl (hb hby d4_22) rfl (l' := #[.val (.ref o), .val (.int f0), .val (.int t0), .val (.int x), .val (.int lo), .val (.int hi), .val (.int mid), .unset]) rfl ?_
  show Steps p.tables e below (T0.setTop (mkF m 24 #[.val (.ref o), .val (.int f0), .val (.int t0), .val (.int x), .val (.int lo), .val (.int hi), .val (.int mid), .unset] [])) _
  refine XS.aloadN X0.here hx rfl (hb hby d4_24) rfl rfl ?_
  show Steps p.tables e below (T0.setTop (mkF m 25 #[.val (.ref o), .val (.int f0), .val (.int t0), .val (.int x), .val (.int lo), .val (.int hi), .val (.int mid), .unset] [(.ref o)])) _
  refine XS.iload X0.here hx rfl (hb hby d4_25) rfl ?_
  show Steps p.tables e below (T0.setTop (mkF m 27 #[.val (.ref o), .val (.int f0), .val (.int t0), .val (.int x), .val (.int lo), .val (.int hi), .val (.int mid), .unset] [(.int mid), (.ref o)])) _
  refine own_ldI X0 hx hZ e0 V (j := mid) hin hv (g := (mkF m 27 #[.val (.ref o), .val (.int f0), .val (.int t0), .val (.int x), .val (.int lo), .val (.int hi), .val (.int mid), .unset] [(.int mid), (.ref o)])) rfl rfl (hb hby d4_27) _ ?_
  show Steps p.tables e below (T0.setTop (mkF m 28 #[.val (.ref o), .val (.int f0), .val (.int t0), .val (.int x), .val (.int lo), .val (.int hi), .val (.int mid), .unset] [(.int w)])) _
  refine XS.istore X0.here hx rfl (hb hby d4_28) rfl (l' := #[.val (.ref o), .val (.int f0), .val (.int t0), .val (.int x), .val (.int lo), .val (.int hi), .val (.int mid), .val (.int w)]) rfl ?_
  show Steps p.tables e below (T0.setTop (mkF m 30 #[.val (.ref o), .val (.int f0), .val (.int t0), .val (.int x), .val (.int lo), .val (.int hi), .val (.int mid), .val (.int w)] [])) _
  refine XS.iload X0.here hx rfl (hb hby d4_30) rfl ?_
  show Steps p.tables e below (T0.setTop (mkF m 32 #[.val (.ref o), .val (.int f0), .val (.int t0), .val (.int x), .val (.int lo), .val (.int hi), .val (.int mid), .val (.int w)] [(.int w)])) _
  refine XS.iloadN X0.here hx rfl (hb hby d4_32) rfl ?_
  show Steps p.tables e below (T0.setTop (mkF m 33 #[.val (.ref o), .val (.int f0), .val (.int t0), .val (.int x), .val (.int lo), .val (.int hi), .val (.int mid), .val (.int w)] [(.int x), (.int w)])) _
  refine XS.icmpYes X0.here hx rfl (pc0 := 33) (pc' := 45) rfl (hb hby d4_33) rfl (flt hc33).2.1 (by decide) (by decide) ?_
  show Steps p.tables e below (T0.setTop (mkF m 45 #[.val (.ref o), .val (.int f0), .val (.int t0), .val (.int x), .val (.int lo), .val (.int hi), .val (.int mid), .val (.int w)] [])) _
  refine XS.iload X0.here hx rfl (hb hby d4_45) rfl ?_
  show Steps p.tables e below (T0.setTop (mkF m 47 #[.val (.ref o), .val (.int f0), .val (.int t0), .val (.int x), .val (.int lo), .val (.int hi), .val (.int mid), .val (.int w)] [(.int w)])) _
  refine XS.iloadN X0.here hx rfl (hb hby d4_47) rfl ?_
  show Steps p.tables e below (T0.setTop (mkF m 48 #[.val (.ref o), .val (.int f0), .val (.int t0), .val (.int x), .val (.int lo), .val (.int hi), .val (.int mid), .val (.int w)] [(.int x), (.int w)])) _
  refine XS.icmpNo X0.here hx rfl (hb hby d4_48) rfl (tlt hc48).2.2.2 ?_
  show Steps p.tables e below (T0.setTop (mkF m 51 #[.val (.ref o), .val (.int f0), .val (.int t0), .val (.int x), .val (.int lo), .val (.int hi), .val (.int mid), .val (.int w)] [])) _
  refine XS.iload X0.here hx rfl (hb hby d4_51) rfl ?_
  show Steps p.tables e below (T0.setTop (mkF m 53 #[.val (.ref o), .val (.int f0), .val (.int t0), .val (.int x), .val (.int lo), .val (.int hi), .val (.int mid), .val (.int w)] [(.int mid)])) _
  refine XS.iconst X0.here hx rfl (hb hby d4_53) ?_
  show Steps p.tables e below (T0.setTop (mkF m 54 #[.val (.ref o), .val (.int f0), .val (.int t0), .val (.int x), .val (.int lo), .val (.int hi), .val (.int mid), .val (.int w)] [(.int 1), (.int mid)])) _
  refine XS.isub X0.here hx rfl (hb hby d4_54) rfl ?_
  show Steps p.tables e below (T0.setTop (mkF m 55 #[.val (.ref o), .val (.int f0), .val (.int t0), .val (.int x), .val (.int lo), .val (.int hi), .val (.int mid), .val (.int w)] [(.int (mid - (1 : Int32)))])) _
  rw [hz2]
  show Steps p.tables e below (T0.setTop (mkF m 55 #[.val (.ref o), .val (.int f0), .val (.int t0), .val (.int x), .val (.int lo), .val (.int hi), .val (.int mid), .val (.int w)] [(.int z2)])) _
  refine XS.istore X0.here hx rfl (hb hby d4_55) rfl (l' := #[.val (.ref o), .val (.int f0), .val (.int t0), .val (.int x), .val (.int lo), .val (.int z2), .val (.int mid), .val (.int w)]) rfl ?_
  show Steps p.tables e below (T0.setTop (mkF m 57 #[.val (.ref o), .val (.int f0), .val (.int t0), .val (.int x), .val (.int lo), .val (.int z2), .val (.int mid), .val (.int w)] [])) _
  refine XS.goto X0.here hx rfl (pc0 := 57) (pc' := 63) rfl (hb hby d4_57) (by decide) (by decide) ?_
  show Steps p.tables e below (T0.setTop (mkF m 63 #[.val (.ref o), .val (.int f0), .val (.int t0), .val (.int x), .val (.int lo), .val (.int z2), .val (.int mid), .val (.int w)] [])) _
  refine XS.goto X0.here hx rfl (pc0 := 63) (pc' := 8) rfl (hb hby d4_63) (by decide) (by decide) ?_
  show Steps p.tables e below (T0.setTop (mkF m 8 #[.val (.ref o), .val (.int f0), .val (.int t0), .val (.int x), .val (.int lo), .val (.int z2), .val (.int mid), .val (.int w)] [])) _
  exact kt
set_option maxRecDepth 65536 in
set_option maxHeartbeats 40000000 in
theorem tnLv {p : Program} {l : Launch} {e : Env} {R : Room} {s : State} {m : MethodId} {args : Array Value} {below : List Frame} {meth : Method} {c : Code} {T0 : State} {locs : List Loc} {cells slots : Nat} {Z : State} {h0 : Heap} (o : Addr) (f0 : Int32) (t0 : Int32) (x : Int32) (lo : Int32) (hi : Int32) (m0 : Int32) (w0 : Int32) (mid : Int32) (k : ClassId) (n : Int32) (vs : List Value) (d : Value) (w : Int32) (z2 : Int32)
    (X0 : Stand p l e R s m args below meth c T0 locs cells slots) (hx : p.tables.exec = Jvm.exec) (hZ : Z.Warmed39 s.vm) (hby : c.code = jdk_65_method_59_code) (e0 : T0.heap = h0) (hc12 : ¬ (hi < lo)) (hmid : (((lo + hi).toUInt32 >>> ((1 : Int32) &&& 31).toUInt32).toInt32) = mid) (V : Arv Z h0 o k .int n vs d) (hin : ¬ mid < 0 ∧ mid < n) (hv : vs.getD (mid).toNatClampNeg d = (.int w)) (hc33 : w < x) (hz2 : (mid + (1 : Int32)) = z2) :
    ∀ target, Steps p.tables e below (T0.setTop (mkF m 8 #[.val (.ref o), .val (.int f0), .val (.int t0), .val (.int x), .val (.int z2), .val (.int hi), .val (.int mid), .val (.int w)] [])) target → Steps p.tables e below (T0.setTop (mkF m 8 #[.val (.ref o), .val (.int f0), .val (.int t0), .val (.int x), .val (.int lo), .val (.int hi), .val (.int m0), .val (.int w0)] [])) target := fun target kt => by
  show Steps p.tables e below (T0.setTop (mkF m 8 #[.val (.ref o), .val (.int f0), .val (.int t0), .val (.int x), .val (.int lo), .val (.int hi), .val (.int m0), .val (.int w0)] [])) _
  refine XS.iload X0.here hx rfl (hb hby d4_8) rfl ?_
  show Steps p.tables e below (T0.setTop (mkF m 10 #[.val (.ref o), .val (.int f0), .val (.int t0), .val (.int x), .val (.int lo), .val (.int hi), .val (.int m0), .val (.int w0)] [(.int lo)])) _
  refine XS.iload X0.here hx rfl (hb hby d4_10) rfl ?_
  show Steps p.tables e below (T0.setTop (mkF m 12 #[.val (.ref o), .val (.int f0), .val (.int t0), .val (.int x), .val (.int lo), .val (.int hi), .val (.int m0), .val (.int w0)] [(.int hi), (.int lo)])) _
  refine XS.icmpNo X0.here hx rfl (hb hby d4_12) rfl (flt hc12).2.2.1 ?_
  show Steps p.tables e below (T0.setTop (mkF m 15 #[.val (.ref o), .val (.int f0), .val (.int t0), .val (.int x), .val (.int lo), .val (.int hi), .val (.int m0), .val (.int w0)] [])) _
  refine XS.iload X0.here hx rfl (hb hby d4_15) rfl ?_
  show Steps p.tables e below (T0.setTop (mkF m 17 #[.val (.ref o), .val (.int f0), .val (.int t0), .val (.int x), .val (.int lo), .val (.int hi), .val (.int m0), .val (.int w0)] [(.int lo)])) _
  refine XS.iload X0.here hx rfl (hb hby d4_17) rfl ?_
  show Steps p.tables e below (T0.setTop (mkF m 19 #[.val (.ref o), .val (.int f0), .val (.int t0), .val (.int x), .val (.int lo), .val (.int hi), .val (.int m0), .val (.int w0)] [(.int hi), (.int lo)])) _
  refine XS.iadd X0.here hx rfl (hb hby d4_19) rfl ?_
  show Steps p.tables e below (T0.setTop (mkF m 20 #[.val (.ref o), .val (.int f0), .val (.int t0), .val (.int x), .val (.int lo), .val (.int hi), .val (.int m0), .val (.int w0)] [(.int (lo + hi))])) _
  refine XS.iconst X0.here hx rfl (hb hby d4_20) ?_
  show Steps p.tables e below (T0.setTop (mkF m 21 #[.val (.ref o), .val (.int f0), .val (.int t0), .val (.int x), .val (.int lo), .val (.int hi), .val (.int m0), .val (.int w0)] [(.int 1), (.int (lo + hi))])) _
  refine XS.iushr X0.here hx rfl (hb hby d4_21) rfl ?_
  show Steps p.tables e below (T0.setTop (mkF m 22 #[.val (.ref o), .val (.int f0), .val (.int t0), .val (.int x), .val (.int lo), .val (.int hi), .val (.int m0), .val (.int w0)] [(.int (((lo + hi).toUInt32 >>> ((1 : Int32) &&& 31).toUInt32).toInt32))])) _
  rw [hmid]
  show Steps p.tables e below (T0.setTop (mkF m 22 #[.val (.ref o), .val (.int f0), .val (.int t0), .val (.int x), .val (.int lo), .val (.int hi), .val (.int m0), .val (.int w0)] [(.int mid)])) _
  refine XS.istore X0.here hx rfl (hb hby d4_22) rfl (l' := #[.val (.ref o), .val (.int f0), .val (.int t0), .val (.int x), .val (.int lo), .val (.int hi), .val (.int mid), .val (.int w0)]) rfl ?_
  show Steps p.tables e below (T0.setTop (mkF m 24 #[.val (.ref o), .val (.int f0), .val (.int t0), .val (.int x), .val (.int lo), .val (.int hi), .val (.int mid), .val (.int w0)] [])) _
  refine XS.aloadN X0.here hx rfl (hb hby d4_24) rfl rfl ?_
  show Steps p.tables e below (T0.setTop (mkF m 25 #[.val (.ref o), .val (.int f0), .val (.int t0), .val (.int x), .val (.int lo), .val (.int hi), .val (.int mid), .val (.int w0)] [(.ref o)])) _
  refine XS.iload X0.here hx rfl (hb hby d4_25) rfl ?_
  show Steps p.tables e below (T0.setTop (mkF m 27 #[.val (.ref o), .val (.int f0), .val (.int t0), .val (.int x), .val (.int lo), .val (.int hi), .val (.int mid), .val (.int w0)] [(.int mid), (.ref o)])) _
  refine own_ldI X0 hx hZ e0 V (j := mid) hin hv (g := (mkF m 27 #[.val (.ref o), .val (.int f0), .val (.int t0), .val (.int x), .val (.int lo), .val (.int hi), .val (.int mid), .val (.int w0)] [(.int mid), (.ref o)])) rfl rfl (hb hby d4_27) _ ?_
  show Steps p.tables e below (T0.setTop (mkF m 28 #[.val (.ref o), .val (.int f0), .val (.int t0), .val (.int x), .val (.int lo), .val (.int hi), .val (.int mid), .val (.int w0)] [(.int w)])) _
  refine XS.istore X0.here hx rfl (hb hby d4_28) rfl (l' := #[.val (.ref o), .val (.int f0), .val (.int t0), .val (.int x), .val (.int lo), .val (.int hi), .val (.int mid), .val (.int w)]) rfl ?_
  show Steps p.tables e below (T0.setTop (mkF m 30 #[.val (.ref o), .val (.int f0), .val (.int t0), .val (.int x), .val (.int lo), .val (.int hi), .val (.int mid), .val (.int w)] [])) _
  refine XS.iload X0.here hx rfl (hb hby d4_30) rfl ?_
  show Steps p.tables e below (T0.setTop (mkF m 32 #[.val (.ref o), .val (.int f0), .val (.int t0), .val (.int x), .val (.int lo), .val (.int hi), .val (.int mid), .val (.int w)] [(.int w)])) _
  refine XS.iloadN X0.here hx rfl (hb hby d4_32) rfl ?_
  show Steps p.tables e below (T0.setTop (mkF m 33 #[.val (.ref o), .val (.int f0), .val (.int t0), .val (.int x), .val (.int lo), .val (.int hi), .val (.int mid), .val (.int w)] [(.int x), (.int w)])) _
  refine XS.icmpNo X0.here hx rfl (hb hby d4_33) rfl (tlt hc33).2.1 ?_
  show Steps p.tables e below (T0.setTop (mkF m 36 #[.val (.ref o), .val (.int f0), .val (.int t0), .val (.int x), .val (.int lo), .val (.int hi), .val (.int mid), .val (.int w)] [])) _
  refine XS.iload X0.here hx rfl (hb hby d4_36) rfl ?_
  show Steps p.tables e below (T0.setTop (mkF m 38 #[.val (.ref o), .val (.int f0), .val (.int t0), .val (.int x), .val (.int lo), .val (.int hi), .val (.int mid), .val (.int w)] [(.int mid)])) _
  refine XS.iconst X0.here hx rfl (hb hby d4_38) ?_
  show Steps p.tables e below (T0.setTop (mkF m 39 #[.val (.ref o), .val (.int f0), .val (.int t0), .val (.int x), .val (.int lo), .val (.int hi), .val (.int mid), .val (.int w)] [(.int 1), (.int mid)])) _
  refine XS.iadd X0.here hx rfl (hb hby d4_39) rfl ?_
  show Steps p.tables e below (T0.setTop (mkF m 40 #[.val (.ref o), .val (.int f0), .val (.int t0), .val (.int x), .val (.int lo), .val (.int hi), .val (.int mid), .val (.int w)] [(.int (mid + (1 : Int32)))])) _
  rw [hz2]
  show Steps p.tables e below (T0.setTop (mkF m 40 #[.val (.ref o), .val (.int f0), .val (.int t0), .val (.int x), .val (.int lo), .val (.int hi), .val (.int mid), .val (.int w)] [(.int z2)])) _
  refine XS.istore X0.here hx rfl (hb hby d4_40) rfl (l' := #[.val (.ref o), .val (.int f0), .val (.int t0), .val (.int x), .val (.int z2), .val (.int hi), .val (.int mid), .val (.int w)]) rfl ?_
  show Steps p.tables e below (T0.setTop (mkF m 42 #[.val (.ref o), .val (.int f0), .val (.int t0), .val (.int x), .val (.int z2), .val (.int hi), .val (.int mid), .val (.int w)] [])) _
  refine XS.goto X0.here hx rfl (pc0 := 42) (pc' := 63) rfl (hb hby d4_42) (by decide) (by decide) ?_
  show Steps p.tables e below (T0.setTop (mkF m 63 #[.val (.ref o), .val (.int f0), .val (.int t0), .val (.int x), .val (.int z2), .val (.int hi), .val (.int mid), .val (.int w)] [])) _
  refine XS.goto X0.here hx rfl (pc0 := 63) (pc' := 8) rfl (hb hby d4_63) (by decide) (by decide) ?_
  show Steps p.tables e below (T0.setTop (mkF m 8 #[.val (.ref o), .val (.int f0), .val (.int t0), .val (.int x), .val (.int z2), .val (.int hi), .val (.int mid), .val (.int w)] [])) _
  exact kt
set_option maxRecDepth 65536 in
set_option maxHeartbeats 40000000 in
theorem tnGv {p : Program} {l : Launch} {e : Env} {R : Room} {s : State} {m : MethodId} {args : Array Value} {below : List Frame} {meth : Method} {c : Code} {T0 : State} {locs : List Loc} {cells slots : Nat} {Z : State} {h0 : Heap} (o : Addr) (f0 : Int32) (t0 : Int32) (x : Int32) (lo : Int32) (hi : Int32) (m0 : Int32) (w0 : Int32) (mid : Int32) (k : ClassId) (n : Int32) (vs : List Value) (d : Value) (w : Int32) (z2 : Int32)
    (X0 : Stand p l e R s m args below meth c T0 locs cells slots) (hx : p.tables.exec = Jvm.exec) (hZ : Z.Warmed39 s.vm) (hby : c.code = jdk_65_method_59_code) (e0 : T0.heap = h0) (hc12 : ¬ (hi < lo)) (hmid : (((lo + hi).toUInt32 >>> ((1 : Int32) &&& 31).toUInt32).toInt32) = mid) (V : Arv Z h0 o k .int n vs d) (hin : ¬ mid < 0 ∧ mid < n) (hv : vs.getD (mid).toNatClampNeg d = (.int w)) (hc33 : ¬ (w < x)) (hc48 : x < w) (hz2 : (mid - (1 : Int32)) = z2) :
    ∀ target, Steps p.tables e below (T0.setTop (mkF m 8 #[.val (.ref o), .val (.int f0), .val (.int t0), .val (.int x), .val (.int lo), .val (.int z2), .val (.int mid), .val (.int w)] [])) target → Steps p.tables e below (T0.setTop (mkF m 8 #[.val (.ref o), .val (.int f0), .val (.int t0), .val (.int x), .val (.int lo), .val (.int hi), .val (.int m0), .val (.int w0)] [])) target := fun target kt => by
  show Steps p.tables e below (T0.setTop (mkF m 8 #[.val (.ref o), .val (.int f0), .val (.int t0), .val (.int x), .val (.int lo), .val (.int hi), .val (.int m0), .val (.int w0)] [])) _
  refine XS.iload X0.here hx rfl (hb hby d4_8) rfl ?_
  show Steps p.tables e below (T0.setTop (mkF m 10 #[.val (.ref o), .val (.int f0), .val (.int t0), .val (.int x), .val (.int lo), .val (.int hi), .val (.int m0), .val (.int w0)] [(.int lo)])) _
  refine XS.iload X0.here hx rfl (hb hby d4_10) rfl ?_
  show Steps p.tables e below (T0.setTop (mkF m 12 #[.val (.ref o), .val (.int f0), .val (.int t0), .val (.int x), .val (.int lo), .val (.int hi), .val (.int m0), .val (.int w0)] [(.int hi), (.int lo)])) _
  refine XS.icmpNo X0.here hx rfl (hb hby d4_12) rfl (flt hc12).2.2.1 ?_
  show Steps p.tables e below (T0.setTop (mkF m 15 #[.val (.ref o), .val (.int f0), .val (.int t0), .val (.int x), .val (.int lo), .val (.int hi), .val (.int m0), .val (.int w0)] [])) _
  refine XS.iload X0.here hx rfl (hb hby d4_15) rfl ?_
  show Steps p.tables e below (T0.setTop (mkF m 17 #[.val (.ref o), .val (.int f0), .val (.int t0), .val (.int x), .val (.int lo), .val (.int hi), .val (.int m0), .val (.int w0)] [(.int lo)])) _
  refine XS.iload X0.here hx rfl (hb hby d4_17) rfl ?_
  show Steps p.tables e below (T0.setTop (mkF m 19 #[.val (.ref o), .val (.int f0), .val (.int t0), .val (.int x), .val (.int lo), .val (.int hi), .val (.int m0), .val (.int w0)] [(.int hi), (.int lo)])) _
  refine XS.iadd X0.here hx rfl (hb hby d4_19) rfl ?_
  show Steps p.tables e below (T0.setTop (mkF m 20 #[.val (.ref o), .val (.int f0), .val (.int t0), .val (.int x), .val (.int lo), .val (.int hi), .val (.int m0), .val (.int w0)] [(.int (lo + hi))])) _
  refine XS.iconst X0.here hx rfl (hb hby d4_20) ?_
  show Steps p.tables e below (T0.setTop (mkF m 21 #[.val (.ref o), .val (.int f0), .val (.int t0), .val (.int x), .val (.int lo), .val (.int hi), .val (.int m0), .val (.int w0)] [(.int 1), (.int (lo + hi))])) _
  refine XS.iushr X0.here hx rfl (hb hby d4_21) rfl ?_
  show Steps p.tables e below (T0.setTop (mkF m 22 #[.val (.ref o), .val (.int f0), .val (.int t0), .val (.int x), .val (.int lo), .val (.int hi), .val (.int m0), .val (.int w0)] [(.int (((lo + hi).toUInt32 >>> ((1 : Int32) &&& 31).toUInt32).toInt32))])) _
  rw [hmid]
  show Steps p.tables e below (T0.setTop (mkF m 22 #[.val (.ref o), .val (.int f0), .val (.int t0), .val (.int x), .val (.int lo), .val (.int hi), .val (.int m0), .val (.int w0)] [(.int mid)])) _
  refine XS.istore X0.here hx rfl (hb hby d4_22) rfl (l' := #[.val (.ref o), .val (.int f0), .val (.int t0), .val (.int x), .val (.int lo), .val (.int hi), .val (.int mid), .val (.int w0)]) rfl ?_
  show Steps p.tables e below (T0.setTop (mkF m 24 #[.val (.ref o), .val (.int f0), .val (.int t0), .val (.int x), .val (.int lo), .val (.int hi), .val (.int mid), .val (.int w0)] [])) _
  refine XS.aloadN X0.here hx rfl (hb hby d4_24) rfl rfl ?_
  show Steps p.tables e below (T0.setTop (mkF m 25 #[.val (.ref o), .val (.int f0), .val (.int t0), .val (.int x), .val (.int lo), .val (.int hi), .val (.int mid), .val (.int w0)] [(.ref o)])) _
  refine XS.iload X0.here hx rfl (hb hby d4_25) rfl ?_
  show Steps p.tables e below (T0.setTop (mkF m 27 #[.val (.ref o), .val (.int f0), .val (.int t0), .val (.int x), .val (.int lo), .val (.int hi), .val (.int mid), .val (.int w0)] [(.int mid), (.ref o)])) _
  refine own_ldI X0 hx hZ e0 V (j := mid) hin hv (g := (mkF m 27 #[.val (.ref o), .val (.int f0), .val (.int t0), .val (.int x), .val (.int lo), .val (.int hi), .val (.int mid), .val (.int w0)] [(.int mid), (.ref o)])) rfl rfl (hb hby d4_27) _ ?_
  show Steps p.tables e below (T0.setTop (mkF m 28 #[.val (.ref o), .val (.int f0), .val (.int t0), .val (.int x), .val (.int lo), .val (.int hi), .val (.int mid), .val (.int w0)] [(.int w)])) _
  refine XS.istore X0.here hx rfl (hb hby d4_28) rfl (l' := #[.val (.ref o), .val (.int f0), .val (.int t0), .val (.int x), .val (.int lo), .val (.int hi), .val (.int mid), .val (.int w)]) rfl ?_
  show Steps p.tables e below (T0.setTop (mkF m 30 #[.val (.ref o), .val (.int f0), .val (.int t0), .val (.int x), .val (.int lo), .val (.int hi), .val (.int mid), .val (.int w)] [])) _
  refine XS.iload X0.here hx rfl (hb hby d4_30) rfl ?_
  show Steps p.tables e below (T0.setTop (mkF m 32 #[.val (.ref o), .val (.int f0), .val (.int t0), .val (.int x), .val (.int lo), .val (.int hi), .val (.int mid), .val (.int w)] [(.int w)])) _
  refine XS.iloadN X0.here hx rfl (hb hby d4_32) rfl ?_
  show Steps p.tables e below (T0.setTop (mkF m 33 #[.val (.ref o), .val (.int f0), .val (.int t0), .val (.int x), .val (.int lo), .val (.int hi), .val (.int mid), .val (.int w)] [(.int x), (.int w)])) _
  refine XS.icmpYes X0.here hx rfl (pc0 := 33) (pc' := 45) rfl (hb hby d4_33) rfl (flt hc33).2.1 (by decide) (by decide) ?_
  show Steps p.tables e below (T0.setTop (mkF m 45 #[.val (.ref o), .val (.int f0), .val (.int t0), .val (.int x), .val (.int lo), .val (.int hi), .val (.int mid), .val (.int w)] [])) _
  refine XS.iload X0.here hx rfl (hb hby d4_45) rfl ?_
  show Steps p.tables e below (T0.setTop (mkF m 47 #[.val (.ref o), .val (.int f0), .val (.int t0), .val (.int x), .val (.int lo), .val (.int hi), .val (.int mid), .val (.int w)] [(.int w)])) _
  refine XS.iloadN X0.here hx rfl (hb hby d4_47) rfl ?_
  show Steps p.tables e below (T0.setTop (mkF m 48 #[.val (.ref o), .val (.int f0), .val (.int t0), .val (.int x), .val (.int lo), .val (.int hi), .val (.int mid), .val (.int w)] [(.int x), (.int w)])) _
  refine XS.icmpNo X0.here hx rfl (hb hby d4_48) rfl (tlt hc48).2.2.2 ?_
  show Steps p.tables e below (T0.setTop (mkF m 51 #[.val (.ref o), .val (.int f0), .val (.int t0), .val (.int x), .val (.int lo), .val (.int hi), .val (.int mid), .val (.int w)] [])) _
  refine XS.iload X0.here hx rfl (hb hby d4_51) rfl ?_
  show Steps p.tables e below (T0.setTop (mkF m 53 #[.val (.ref o), .val (.int f0), .val (.int t0), .val (.int x), .val (.int lo), .val (.int hi), .val (.int mid), .val (.int w)] [(.int mid)])) _
  refine XS.iconst X0.here hx rfl (hb hby d4_53) ?_
  show Steps p.tables e below (T0.setTop (mkF m 54 #[.val (.ref o), .val (.int f0), .val (.int t0), .val (.int x), .val (.int lo), .val (.int hi), .val (.int mid), .val (.int w)] [(.int 1), (.int mid)])) _
  refine XS.isub X0.here hx rfl (hb hby d4_54) rfl ?_
  show Steps p.tables e below (T0.setTop (mkF m 55 #[.val (.ref o), .val (.int f0), .val (.int t0), .val (.int x), .val (.int lo), .val (.int hi), .val (.int mid), .val (.int w)] [(.int (mid - (1 : Int32)))])) _
  rw [hz2]
  show Steps p.tables e below (T0.setTop (mkF m 55 #[.val (.ref o), .val (.int f0), .val (.int t0), .val (.int x), .val (.int lo), .val (.int hi), .val (.int mid), .val (.int w)] [(.int z2)])) _
  refine XS.istore X0.here hx rfl (hb hby d4_55) rfl (l' := #[.val (.ref o), .val (.int f0), .val (.int t0), .val (.int x), .val (.int lo), .val (.int z2), .val (.int mid), .val (.int w)]) rfl ?_
  show Steps p.tables e below (T0.setTop (mkF m 57 #[.val (.ref o), .val (.int f0), .val (.int t0), .val (.int x), .val (.int lo), .val (.int z2), .val (.int mid), .val (.int w)] [])) _
  refine XS.goto X0.here hx rfl (pc0 := 57) (pc' := 63) rfl (hb hby d4_57) (by decide) (by decide) ?_
  show Steps p.tables e below (T0.setTop (mkF m 63 #[.val (.ref o), .val (.int f0), .val (.int t0), .val (.int x), .val (.int lo), .val (.int z2), .val (.int mid), .val (.int w)] [])) _
  refine XS.goto X0.here hx rfl (pc0 := 63) (pc' := 8) rfl (hb hby d4_63) (by decide) (by decide) ?_
  show Steps p.tables e below (T0.setTop (mkF m 8 #[.val (.ref o), .val (.int f0), .val (.int t0), .val (.int x), .val (.int lo), .val (.int z2), .val (.int mid), .val (.int w)] [])) _
  exact kt
def Q4_r_DIGIT_0_2_x_None_48 (Z : State) (r_DIGIT : Addr) (x : Int32) (k_DIGIT : ClassId) (h0 : Heap) (n0 : Nat) (v : Option Value) (h : Heap) (L : List Loc) : Prop := v = some (.int (-1)) ∧ Fr n0 L ∧ h = h0
set_option maxRecDepth 65536 in
set_option maxHeartbeats 40000000 in
theorem rm4_r_DIGIT_0_2_x_None_48 (l : Launch) (Z : State) (a0 : Array Value) (hw : ∀ d ∈ tables_1, d.before a0 Z = true) (ws : List Jvm.Cond) (r_DIGIT : Addr) (x : Int32) (k_DIGIT : ClassId) (h0 : Heap) (n0 : Nat) (Z0 : n0 ≤ h0.size) (hhi_x : x < (48 : Int32)) (V_r_DIGIT : Arv Z h0 r_DIGIT k_DIGIT .int (2 : Int32) [(.int 48), (.int 57)] (.int (0 : Int32))) :
    MetFree l (⟨"java/util/Arrays", "binarySearch0", "([IIII)I"⟩ : MethodName) (head1 (Jvm.Cond.code (⟨"java/util/Arrays", "binarySearch0", "([IIII)I"⟩ : MethodName) jdk_65_method_59_code 8 (some .int) :: ws) ({ frames := 0, cells := 0, slots := 0, locals := 0 } : Room)) (fun a U => a = #[(.ref r_DIGIT), (.int 0), (.int 2), (.int x)] ∧ Z.Warmed39 U.vm ∧ U.heap = h0) (fun _ _ _ _ _ => True) (fun _ U o U' => ∃ v L, o = .returned v ∧ Q4_r_DIGIT_0_2_x_None_48 Z r_DIGIT x k_DIGIT h0 n0 v U'.heap L ∧ FrameEnd U o U' L ({ frames := 0, cells := 0, slots := 0, locals := 0 } : Room).cells ({ frames := 0, cells := 0, slots := 0, locals := 0 } : Room).slots) := by
  refine MetFree.of_bodySF (plainFor_of_name pn_4) hisR ?_
  intro p e s m args below meth c s₁ Bd hml0 hP hK
  obtain ⟨rfl, hZ, hh⟩ := hP
  have hx := Bd.exec
  have hby := Bd.bytes
  have hml : c.maxLocals = 8 := hml0
  have hown : s.vm.findClass "java/util/Arrays" = some m.cls := findClass_of_methodNamed Bd.named
  have hnm := (name_of_methodNamed Bd.named Bd.method).1
  have X0 : Stand p l e ({ frames := 0, cells := 0, slots := 0, locals := 0 } : Room) s m #[(.ref r_DIGIT), (.int 0), (.int 2), (.int x)] below meth c s₁ [] 0 0 := Stand.of_body Bd
  have e0 : s₁.heap = h0 := by rw [← hh, Bd.state]; rfl
  have N0 := Fr.nil n0
  have pre0 : ∀ t, Steps p.tables e below (s₁.setTop (mkF m 0 #[.val (.ref r_DIGIT), .val (.int 0), .val (.int 2), .val (.int x), .unset, .unset, .unset, .unset] [])) t → Steps p.tables e below (s₁.setTop (entryFrame m #[(.ref r_DIGIT), (.int 0), (.int 2), (.int x)] 8)) t := fun t k => castTop (by first | (simp [entryFrame, mkF, argsToLocals, Value.category]; done) | rfl) k
  obtain ⟨fs, hr, hrun, hended, hW, hsame⟩ := X0.leave (v := some (.int (-1))) (fun h => by rw [Bd.returns] at h; cases h)
  refine ⟨_, _, pre0 _ ?_, hrun, hended, _, _, rfl, ?_, ⟨_, rfl⟩, hW, hsame.mono (by decide) (by decide)⟩
  · show Steps p.tables e below (s₁.setTop (mkF m 0 #[.val (.ref r_DIGIT), .val (.int 0), .val (.int 2), .val (.int x), .unset, .unset, .unset, .unset] [])) _
    refine XS.iloadN X0.here hx rfl (hb hby d4_0) rfl ?_
    show Steps p.tables e below (s₁.setTop (mkF m 1 #[.val (.ref r_DIGIT), .val (.int 0), .val (.int 2), .val (.int x), .unset, .unset, .unset, .unset] [(.int 0)])) _
    refine XS.istore X0.here hx rfl (hb hby d4_1) rfl (l' := #[.val (.ref r_DIGIT), .val (.int 0), .val (.int 2), .val (.int x), .val (.int 0), .unset, .unset, .unset]) rfl ?_
    show Steps p.tables e below (s₁.setTop (mkF m 3 #[.val (.ref r_DIGIT), .val (.int 0), .val (.int 2), .val (.int x), .val (.int 0), .unset, .unset, .unset] [])) _
    refine XS.iloadN X0.here hx rfl (hb hby d4_3) rfl ?_
    show Steps p.tables e below (s₁.setTop (mkF m 4 #[.val (.ref r_DIGIT), .val (.int 0), .val (.int 2), .val (.int x), .val (.int 0), .unset, .unset, .unset] [(.int 2)])) _
    refine XS.iconst X0.here hx rfl (hb hby d4_4) ?_
    show Steps p.tables e below (s₁.setTop (mkF m 5 #[.val (.ref r_DIGIT), .val (.int 0), .val (.int 2), .val (.int x), .val (.int 0), .unset, .unset, .unset] [(.int 1), (.int 2)])) _
    refine XS.isub X0.here hx rfl (hb hby d4_5) rfl ?_
    show Steps p.tables e below (s₁.setTop (mkF m 6 #[.val (.ref r_DIGIT), .val (.int 0), .val (.int 2), .val (.int x), .val (.int 0), .unset, .unset, .unset] [(.int ((2 : Int32) - (1 : Int32)))])) _
    rw [(by decide : ((2 : Int32) - (1 : Int32)) = (1 : Int32))]
    show Steps p.tables e below (s₁.setTop (mkF m 6 #[.val (.ref r_DIGIT), .val (.int 0), .val (.int 2), .val (.int x), .val (.int 0), .unset, .unset, .unset] [(.int 1)])) _
    refine XS.istore X0.here hx rfl (hb hby d4_6) rfl (l' := #[.val (.ref r_DIGIT), .val (.int 0), .val (.int 2), .val (.int x), .val (.int 0), .val (.int 1), .unset, .unset]) rfl ?_
    show Steps p.tables e below (s₁.setTop (mkF m 8 #[.val (.ref r_DIGIT), .val (.int 0), .val (.int 2), .val (.int x), .val (.int 0), .val (.int 1), .unset, .unset] [])) _
    refine tnGu r_DIGIT (0 : Int32) (2 : Int32) x (0 : Int32) (1 : Int32) (0 : Int32) k_DIGIT (2 : Int32) [(.int 48), (.int 57)] (.int (0 : Int32)) (48 : Int32) (-1 : Int32) X0 hx hZ hby e0 (by decide) (by decide) V_r_DIGIT ⟨by decide, by decide⟩ rfl (own_ngt hhi_x (by decide)) (own_lt hhi_x (by decide)) (by decide) _ ?_
    show Steps p.tables e below (s₁.setTop (mkF m 8 #[.val (.ref r_DIGIT), .val (.int 0), .val (.int 2), .val (.int x), .val (.int 0), .val (.int (-1)), .val (.int 0), .val (.int 48)] [])) _
    refine XS.iload X0.here hx rfl (hb hby d4_8) rfl ?_
    show Steps p.tables e below (s₁.setTop (mkF m 10 #[.val (.ref r_DIGIT), .val (.int 0), .val (.int 2), .val (.int x), .val (.int 0), .val (.int (-1)), .val (.int 0), .val (.int 48)] [(.int 0)])) _
    refine XS.iload X0.here hx rfl (hb hby d4_10) rfl ?_
    show Steps p.tables e below (s₁.setTop (mkF m 12 #[.val (.ref r_DIGIT), .val (.int 0), .val (.int 2), .val (.int x), .val (.int 0), .val (.int (-1)), .val (.int 0), .val (.int 48)] [(.int (-1)), (.int 0)])) _
    refine XS.icmpYes X0.here hx rfl (pc0 := 12) (pc' := 66) rfl (hb hby d4_12) rfl (tlt (by decide : (-1 : Int32) < (0 : Int32))).2.2.1 (by decide) (by decide) ?_
    show Steps p.tables e below (s₁.setTop (mkF m 66 #[.val (.ref r_DIGIT), .val (.int 0), .val (.int 2), .val (.int x), .val (.int 0), .val (.int (-1)), .val (.int 0), .val (.int 48)] [])) _
    refine XS.iload X0.here hx rfl (hb hby d4_66) rfl ?_
    show Steps p.tables e below (s₁.setTop (mkF m 68 #[.val (.ref r_DIGIT), .val (.int 0), .val (.int 2), .val (.int x), .val (.int 0), .val (.int (-1)), .val (.int 0), .val (.int 48)] [(.int 0)])) _
    refine XS.iconst X0.here hx rfl (hb hby d4_68) ?_
    show Steps p.tables e below (s₁.setTop (mkF m 69 #[.val (.ref r_DIGIT), .val (.int 0), .val (.int 2), .val (.int x), .val (.int 0), .val (.int (-1)), .val (.int 0), .val (.int 48)] [(.int 1), (.int 0)])) _
    refine XS.iadd X0.here hx rfl (hb hby d4_69) rfl ?_
    show Steps p.tables e below (s₁.setTop (mkF m 70 #[.val (.ref r_DIGIT), .val (.int 0), .val (.int 2), .val (.int x), .val (.int 0), .val (.int (-1)), .val (.int 0), .val (.int 48)] [(.int ((0 : Int32) + (1 : Int32)))])) _
    rw [(by decide : ((0 : Int32) + (1 : Int32)) = (1 : Int32))]
    show Steps p.tables e below (s₁.setTop (mkF m 70 #[.val (.ref r_DIGIT), .val (.int 0), .val (.int 2), .val (.int x), .val (.int 0), .val (.int (-1)), .val (.int 0), .val (.int 48)] [(.int 1)])) _
    refine XS.ineg X0.here hx rfl (hb hby d4_70) rfl ?_
    show Steps p.tables e below (s₁.setTop (mkF m 71 #[.val (.ref r_DIGIT), .val (.int 0), .val (.int 2), .val (.int x), .val (.int 0), .val (.int (-1)), .val (.int 0), .val (.int 48)] [(.int (-(1 : Int32)))])) _
    rw [(by decide : (-(1 : Int32)) = (-1 : Int32))]
    show Steps p.tables e below (s₁.setTop (mkF m 71 #[.val (.ref r_DIGIT), .val (.int 0), .val (.int 2), .val (.int x), .val (.int 0), .val (.int (-1)), .val (.int 0), .val (.int 48)] [(.int (-1))])) _
    exact retI X0 hx Bd.returns (hb hby d4_71) hr
  · show Q4_r_DIGIT_0_2_x_None_48 Z r_DIGIT x k_DIGIT h0 n0 _ s₁.heap _
    rw [e0]
    exact ⟨rfl, N0, rfl⟩
def Q3_r_DIGIT_x_None_48 (Z : State) (r_DIGIT : Addr) (x : Int32) (k_DIGIT : ClassId) (h0 : Heap) (n0 : Nat) (v : Option Value) (h : Heap) (L : List Loc) : Prop := v = some (.int (-1)) ∧ Fr n0 L ∧ h = h0
set_option maxRecDepth 65536 in
set_option maxHeartbeats 40000000 in
theorem rm3_r_DIGIT_x_None_48 (l : Launch) (Z : State) (a0 : Array Value) (hw : ∀ d ∈ tables_1, d.before a0 Z = true) (ws : List Jvm.Cond) (r_DIGIT : Addr) (x : Int32) (k_DIGIT : ClassId) (h0 : Heap) (n0 : Nat) (Z0 : n0 ≤ h0.size) (V_r_DIGIT : Arv Z h0 r_DIGIT k_DIGIT .int (2 : Int32) [(.int 48), (.int 57)] (.int (0 : Int32))) (hhi_x : x < (48 : Int32)) :
    MetFree l (⟨"java/util/Arrays", "binarySearch", "([II)I"⟩ : MethodName) (head1 (Jvm.Cond.code (⟨"java/util/Arrays", "binarySearch", "([II)I"⟩ : MethodName) jdk_65_method_57_code 2 (some .int) :: ws) ({ frames := 1, cells := 0, slots := 0, locals := 19 } : Room)) (fun a U => a = #[(.ref r_DIGIT), (.int x)] ∧ Z.Warmed39 U.vm ∧ U.heap = h0) (fun _ _ _ _ _ => True) (fun _ U o U' => ∃ v L, o = .returned v ∧ Q3_r_DIGIT_x_None_48 Z r_DIGIT x k_DIGIT h0 n0 v U'.heap L ∧ FrameEnd U o U' L ({ frames := 1, cells := 0, slots := 0, locals := 19 } : Room).cells ({ frames := 1, cells := 0, slots := 0, locals := 19 } : Room).slots) := by
  refine MetFree.of_bodySF (plainFor_of_name pn_3) hisR ?_
  intro p e s m args below meth c s₁ Bd hml0 hP hK
  obtain ⟨rfl, hZ, hh⟩ := hP
  have hx := Bd.exec
  have hby := Bd.bytes
  have hml : c.maxLocals = 2 := hml0
  have hown : s.vm.findClass "java/util/Arrays" = some m.cls := findClass_of_methodNamed Bd.named
  have hnm := (name_of_methodNamed Bd.named Bd.method).1
  have X0 : Stand p l e ({ frames := 1, cells := 0, slots := 0, locals := 19 } : Room) s m #[(.ref r_DIGIT), (.int x)] below meth c s₁ [] 0 0 := Stand.of_body Bd
  have e0 : s₁.heap = h0 := by rw [← hh, Bd.state]; rfl
  have N0 := Fr.nil n0
  have pre0 : ∀ t, Steps p.tables e below (s₁.setTop (mkF m 0 #[.val (.ref r_DIGIT), .val (.int x)] [])) t → Steps p.tables e below (s₁.setTop (entryFrame m #[(.ref r_DIGIT), (.int x)] 2)) t := fun t k => castTop (by first | (simp [entryFrame, mkF, argsToLocals, Value.category]; done) | rfl) k
  obtain ⟨_, _, ⟨T1, L1, k1, n1⟩, -, X1, ⟨Lc1, hQ1, l1, y1, z1⟩, st1⟩ := Jvm.LawKit.callS X0 hx (y := (⟨"java/util/Arrays", "binarySearch0", "([IIII)I"⟩ : MethodName)) hown (mvT hZ (hw _ (List.mem_of_getElem? (i := 19) rfl))) (mvT hZ (hw _ (List.mem_of_getElem? (i := 20) rfl))) (mvT hZ (hw _ (List.mem_of_getElem? (i := 17) rfl))) (mvT hZ (hw _ (List.mem_of_getElem? (i := 21) rfl))) (by decide) (backOf (W := 0) (rm4_r_DIGIT_0_2_x_None_48 l Z a0 hw [] r_DIGIT x k_DIGIT h0 n0 Z0 hhi_x V_r_DIGIT) hZ (hw _ (List.mem_of_getElem? (i := 21) rfl)) (hw _ (List.mem_of_getElem? (i := 17) rfl)) (by decide) (by decide)) (g := (mkF m 5 #[.val (.ref r_DIGIT), .val (.int x)] [(.int x), (.int 2), (.int 0), (.ref r_DIGIT)])) rfl (by rw [hml]; rfl) (argsL := [(.ref r_DIGIT), (.int 0), (.int 2), (.int x)]) (rest := []) (lenOf pd___IIII_I rfl) rfl (by show 2 * 0 + _ ≤ _; exact Nat.le_of_eq rfl) (hb hby d3_5) (fun _ _ => ⟨rfl, e0, (by decide : 0 + 0 ≤ _), (by decide : 0 + 0 ≤ _)⟩)
  dsimp only [Pt.U, Pt.locs, Pt.cells, Pt.slots] at X1 l1 y1 z1 st1 hQ1
  subst l1 y1 z1
  obtain ⟨rfl, N1q, e1⟩ := hQ1
  have N1 := Fr.app N0 N1q
  obtain ⟨fs, hr, hrun, hended, hW, hsame⟩ := X1.leave (v := some (.int (-1))) (fun h => by rw [Bd.returns] at h; cases h)
  refine ⟨_, _, pre0 _ ?_, hrun, hended, _, _, rfl, ?_, ⟨_, rfl⟩, hW, hsame.mono (by decide) (by decide)⟩
  · show Steps p.tables e below (s₁.setTop (mkF m 0 #[.val (.ref r_DIGIT), .val (.int x)] [])) _
    refine XS.aloadN X0.here hx rfl (hb hby d3_0) rfl rfl ?_
    show Steps p.tables e below (s₁.setTop (mkF m 1 #[.val (.ref r_DIGIT), .val (.int x)] [(.ref r_DIGIT)])) _
    refine XS.iconst X0.here hx rfl (hb hby d3_1) ?_
    show Steps p.tables e below (s₁.setTop (mkF m 2 #[.val (.ref r_DIGIT), .val (.int x)] [(.int 0), (.ref r_DIGIT)])) _
    refine XS.aloadN X0.here hx rfl (hb hby d3_2) rfl rfl ?_
    show Steps p.tables e below (s₁.setTop (mkF m 3 #[.val (.ref r_DIGIT), .val (.int x)] [(.ref r_DIGIT), (.int 0), (.ref r_DIGIT)])) _
    refine own_lenz X0 hx hZ e0 V_r_DIGIT (g := (mkF m 3 #[.val (.ref r_DIGIT), .val (.int x)] [(.ref r_DIGIT), (.int 0), (.ref r_DIGIT)])) rfl rfl (hb hby d3_3) _ ?_
    show Steps p.tables e below (s₁.setTop (mkF m 4 #[.val (.ref r_DIGIT), .val (.int x)] [(.int 2), (.int 0), (.ref r_DIGIT)])) _
    refine XS.iloadN X0.here hx rfl (hb hby d3_4) rfl ?_
    show Steps p.tables e below (s₁.setTop (mkF m 5 #[.val (.ref r_DIGIT), .val (.int x)] [(.int x), (.int 2), (.int 0), (.ref r_DIGIT)])) _
    refine st1 _ ?_
    show Steps p.tables e below (T1.setTop (mkF m 8 #[.val (.ref r_DIGIT), .val (.int x)] [(.int (-1))])) _
    exact retI X1 hx Bd.returns (hb hby d3_8) hr
  · show Q3_r_DIGIT_x_None_48 Z r_DIGIT x k_DIGIT h0 n0 _ T1.heap _
    rw [e1]
    exact ⟨rfl, N1, rfl⟩
def Q2_w_DIGIT_x_None_48_all_DIGIT (Z : State) (w_DIGIT : Addr) (x : Int32) (r_DIGIT : Addr) (k_DIGIT : ClassId) (h0 : Heap) (n0 : Nat) (v : Option Value) (h : Heap) (L : List Loc) : Prop := v = some (.int (own_d x)) ∧ Fr n0 L ∧ h = h0
set_option maxRecDepth 65536 in
set_option maxHeartbeats 40000000 in
theorem rm2_w_DIGIT_x_None_48_all_DIGIT (l : Launch) (Z : State) (a0 : Array Value) (hw : ∀ d ∈ tables_1, d.before a0 Z = true) (ws : List Jvm.Cond) (w_DIGIT : Addr) (x : Int32) (r_DIGIT : Addr) (k_DIGIT : ClassId) (h0 : Heap) (n0 : Nat) (Z0 : n0 ≤ h0.size) (F_ranges_w_DIGIT : Fld Z h0 w_DIGIT "com/example/termwell/termwell/core/text/CodePointSet" "ranges" "[I" (.ref r_DIGIT)) (V_r_DIGIT : Arv Z h0 r_DIGIT k_DIGIT .int (2 : Int32) [(.int 48), (.int 57)] (.int (0 : Int32))) (hhi_x : x < (48 : Int32)) (hret : (own_d x) = (0 : Int32)) :
    MetFree l (⟨"com/example/termwell/termwell/core/text/CodePointSet", "contains", "(I)Z"⟩ : MethodName) (head1 (Jvm.Cond.code (⟨"com/example/termwell/termwell/core/text/CodePointSet", "contains", "(I)Z"⟩ : MethodName) prog_19_method_4_code 3 (some .boolean) :: ws) ({ frames := 2, cells := 0, slots := 0, locals := 32 } : Room)) (fun a U => a = #[(.ref w_DIGIT), (.int x)] ∧ Z.Warmed39 U.vm ∧ U.heap = h0) (fun _ _ _ _ _ => True) (fun _ U o U' => ∃ v L, o = .returned v ∧ Q2_w_DIGIT_x_None_48_all_DIGIT Z w_DIGIT x r_DIGIT k_DIGIT h0 n0 v U'.heap L ∧ FrameEnd U o U' L ({ frames := 2, cells := 0, slots := 0, locals := 32 } : Room).cells ({ frames := 2, cells := 0, slots := 0, locals := 32 } : Room).slots) := by
  refine MetFree.of_bodySF (plainFor_of_name pn_2) hisR ?_
  intro p e s m args below meth c s₁ Bd hml0 hP hK
  obtain ⟨rfl, hZ, hh⟩ := hP
  have hx := Bd.exec
  have hby := Bd.bytes
  have hml : c.maxLocals = 3 := hml0
  have hown : s.vm.findClass "com/example/termwell/termwell/core/text/CodePointSet" = some m.cls := findClass_of_methodNamed Bd.named
  have hnm := (name_of_methodNamed Bd.named Bd.method).1
  have X0 : Stand p l e ({ frames := 2, cells := 0, slots := 0, locals := 32 } : Room) s m #[(.ref w_DIGIT), (.int x)] below meth c s₁ [] 0 0 := Stand.of_body Bd
  have e0 : s₁.heap = h0 := by rw [← hh, Bd.state]; rfl
  have N0 := Fr.nil n0
  have pre0 : ∀ t, Steps p.tables e below (s₁.setTop (mkF m 0 #[.val (.ref w_DIGIT), .val (.int x), .unset] [])) t → Steps p.tables e below (s₁.setTop (entryFrame m #[(.ref w_DIGIT), (.int x)] 3)) t := fun t k => castTop (by first | (simp [entryFrame, mkF, argsToLocals, Value.category]; done) | rfl) k
  obtain ⟨T1, X1, e1, st1⟩ := getF X0 hx hZ hown (host := "") (Or.inl (hw _ (List.mem_of_getElem? (i := 13) rfl))) Via.refl e0 F_ranges_w_DIGIT (g := (mkF m 1 #[.val (.ref w_DIGIT), .val (.int x), .unset] [(.ref w_DIGIT)])) rfl rfl (hb hby d2_1)
  obtain ⟨_, _, ⟨T2, L2, k2, n2⟩, -, X2, ⟨Lc2, hQ2, l2, y2, z2⟩, st2⟩ := Jvm.LawKit.callS X1 hx (y := (⟨"java/util/Arrays", "binarySearch", "([II)I"⟩ : MethodName)) hown (mvT hZ (hw _ (List.mem_of_getElem? (i := 15) rfl))) (mvT hZ (hw _ (List.mem_of_getElem? (i := 16) rfl))) (mvT hZ (hw _ (List.mem_of_getElem? (i := 17) rfl))) (mvT hZ (hw _ (List.mem_of_getElem? (i := 18) rfl))) (by decide) (backOf (W := 0) (rm3_r_DIGIT_x_None_48 l Z a0 hw [] r_DIGIT x k_DIGIT h0 n0 Z0 V_r_DIGIT hhi_x) hZ (hw _ (List.mem_of_getElem? (i := 18) rfl)) (hw _ (List.mem_of_getElem? (i := 17) rfl)) (by decide) (by decide)) (g := (mkF m 5 #[.val (.ref w_DIGIT), .val (.int x), .unset] [(.int x), (.ref r_DIGIT)])) rfl (by rw [hml]; rfl) (argsL := [(.ref r_DIGIT), (.int x)]) (rest := []) (lenOf pd___II_I rfl) rfl (by show 2 * 0 + _ ≤ _; exact Nat.le_of_eq rfl) (hb hby d2_5) (fun _ _ => ⟨rfl, e1, (by decide : 0 + 0 ≤ _), (by decide : 0 + 0 ≤ _)⟩)
  dsimp only [Pt.U, Pt.locs, Pt.cells, Pt.slots] at X2 l2 y2 z2 st2 hQ2
  subst l2 y2 z2
  obtain ⟨rfl, N2q, e2⟩ := hQ2
  have N2 := Fr.app N0 N2q
  obtain ⟨fs, hr, hrun, hended, hW, hsame⟩ := X2.leave (v := some (.int 0)) (fun h => by rw [Bd.returns] at h; cases h)
  refine ⟨_, _, pre0 _ ?_, hrun, hended, _, _, rfl, ?_, ⟨_, rfl⟩, hW, hsame.mono (by decide) (by decide)⟩
  · show Steps p.tables e below (s₁.setTop (mkF m 0 #[.val (.ref w_DIGIT), .val (.int x), .unset] [])) _
    refine XS.aloadN X0.here hx rfl (hb hby d2_0) rfl rfl ?_
    show Steps p.tables e below (s₁.setTop (mkF m 1 #[.val (.ref w_DIGIT), .val (.int x), .unset] [(.ref w_DIGIT)])) _
    refine st1 _ ?_
    show Steps p.tables e below (T1.setTop (mkF m 4 #[.val (.ref w_DIGIT), .val (.int x), .unset] [(.ref r_DIGIT)])) _
    refine XS.iloadN X1.here hx rfl (hb hby d2_4) rfl ?_
    show Steps p.tables e below (T1.setTop (mkF m 5 #[.val (.ref w_DIGIT), .val (.int x), .unset] [(.int x), (.ref r_DIGIT)])) _
    refine st2 _ ?_
    show Steps p.tables e below (T2.setTop (mkF m 8 #[.val (.ref w_DIGIT), .val (.int x), .unset] [(.int (-1))])) _
    refine XS.istoreN X2.here hx rfl (hb hby d2_8) rfl (l' := #[.val (.ref w_DIGIT), .val (.int x), .val (.int (-1))]) rfl ?_
    show Steps p.tables e below (T2.setTop (mkF m 9 #[.val (.ref w_DIGIT), .val (.int x), .val (.int (-1))] [])) _
    refine XS.iloadN X2.here hx rfl (hb hby d2_9) rfl ?_
    show Steps p.tables e below (T2.setTop (mkF m 10 #[.val (.ref w_DIGIT), .val (.int x), .val (.int (-1))] [(.int (-1))])) _
    refine XS.ifNo X2.here hx rfl (hb hby d2_10) rfl ((if0 _ _).trans (tlt (by decide : (-1 : Int32) < (0 : Int32))).2.1) ?_
    show Steps p.tables e below (T2.setTop (mkF m 13 #[.val (.ref w_DIGIT), .val (.int x), .val (.int (-1))] [])) _
    refine XS.iloadN X2.here hx rfl (hb hby d2_13) rfl ?_
    show Steps p.tables e below (T2.setTop (mkF m 14 #[.val (.ref w_DIGIT), .val (.int x), .val (.int (-1))] [(.int (-1))])) _
    refine XS.ineg X2.here hx rfl (hb hby d2_14) rfl ?_
    show Steps p.tables e below (T2.setTop (mkF m 15 #[.val (.ref w_DIGIT), .val (.int x), .val (.int (-1))] [(.int (-(-1 : Int32)))])) _
    rw [(by decide : (-(-1 : Int32)) = (1 : Int32))]
    show Steps p.tables e below (T2.setTop (mkF m 15 #[.val (.ref w_DIGIT), .val (.int x), .val (.int (-1))] [(.int 1)])) _
    refine XS.iconst X2.here hx rfl (hb hby d2_15) ?_
    show Steps p.tables e below (T2.setTop (mkF m 16 #[.val (.ref w_DIGIT), .val (.int x), .val (.int (-1))] [(.int 1), (.int 1)])) _
    refine XS.isub X2.here hx rfl (hb hby d2_16) rfl ?_
    show Steps p.tables e below (T2.setTop (mkF m 17 #[.val (.ref w_DIGIT), .val (.int x), .val (.int (-1))] [(.int ((1 : Int32) - (1 : Int32)))])) _
    rw [(by decide : ((1 : Int32) - (1 : Int32)) = (0 : Int32))]
    show Steps p.tables e below (T2.setTop (mkF m 17 #[.val (.ref w_DIGIT), .val (.int x), .val (.int (-1))] [(.int 0)])) _
    refine XS.iconst X2.here hx rfl (hb hby d2_17) ?_
    show Steps p.tables e below (T2.setTop (mkF m 18 #[.val (.ref w_DIGIT), .val (.int x), .val (.int (-1))] [(.int 2), (.int 0)])) _
    refine iremM X2 hx rfl (hb hby d2_18) rfl (by decide) ?_
    show Steps p.tables e below (T2.setTop (mkF m 19 #[.val (.ref w_DIGIT), .val (.int x), .val (.int (-1))] [(.int ((0 : Int32) % (2 : Int32)))])) _
    rw [(by decide : ((0 : Int32) % (2 : Int32)) = (0 : Int32))]
    show Steps p.tables e below (T2.setTop (mkF m 19 #[.val (.ref w_DIGIT), .val (.int x), .val (.int (-1))] [(.int 0)])) _
    refine XS.iconst X2.here hx rfl (hb hby d2_19) ?_
    show Steps p.tables e below (T2.setTop (mkF m 20 #[.val (.ref w_DIGIT), .val (.int x), .val (.int (-1))] [(.int 1), (.int 0)])) _
    refine XS.icmpYes X2.here hx rfl (pc0 := 20) (pc' := 27) rfl (hb hby d2_20) rfl (feq (by decide : ¬ ((0 : Int32) = (1 : Int32)))).2 (by decide) (by decide) ?_
    show Steps p.tables e below (T2.setTop (mkF m 27 #[.val (.ref w_DIGIT), .val (.int x), .val (.int (-1))] [])) _
    refine XS.iconst X2.here hx rfl (hb hby d2_27) ?_
    show Steps p.tables e below (T2.setTop (mkF m 28 #[.val (.ref w_DIGIT), .val (.int x), .val (.int (-1))] [(.int 0)])) _
    exact retN X2 hx (t := .boolean) Bd.returns (by simp) (hb hby d2_28) hr
  · show Q2_w_DIGIT_x_None_48_all_DIGIT Z w_DIGIT x r_DIGIT k_DIGIT h0 n0 _ T2.heap _
    rw [e2]
    exact ⟨(by rw [hret]), N2, rfl⟩
def Q4_r_DIGIT_0_2_48 (Z : State) (r_DIGIT : Addr) (k_DIGIT : ClassId) (h0 : Heap) (n0 : Nat) (v : Option Value) (h : Heap) (L : List Loc) : Prop := v = some (.int 0) ∧ Fr n0 L ∧ h = h0
set_option maxRecDepth 65536 in
set_option maxHeartbeats 40000000 in
theorem rm4_r_DIGIT_0_2_48 (l : Launch) (Z : State) (a0 : Array Value) (hw : ∀ d ∈ tables_1, d.before a0 Z = true) (ws : List Jvm.Cond) (r_DIGIT : Addr) (k_DIGIT : ClassId) (h0 : Heap) (n0 : Nat) (Z0 : n0 ≤ h0.size) (V_r_DIGIT : Arv Z h0 r_DIGIT k_DIGIT .int (2 : Int32) [(.int 48), (.int 57)] (.int (0 : Int32))) :
    MetFree l (⟨"java/util/Arrays", "binarySearch0", "([IIII)I"⟩ : MethodName) (head1 (Jvm.Cond.code (⟨"java/util/Arrays", "binarySearch0", "([IIII)I"⟩ : MethodName) jdk_65_method_59_code 8 (some .int) :: ws) ({ frames := 0, cells := 0, slots := 0, locals := 0 } : Room)) (fun a U => a = #[(.ref r_DIGIT), (.int 0), (.int 2), (.int 48)] ∧ Z.Warmed39 U.vm ∧ U.heap = h0) (fun _ _ _ _ _ => True) (fun _ U o U' => ∃ v L, o = .returned v ∧ Q4_r_DIGIT_0_2_48 Z r_DIGIT k_DIGIT h0 n0 v U'.heap L ∧ FrameEnd U o U' L ({ frames := 0, cells := 0, slots := 0, locals := 0 } : Room).cells ({ frames := 0, cells := 0, slots := 0, locals := 0 } : Room).slots) := by
  refine MetFree.of_bodySF (plainFor_of_name pn_4) hisR ?_
  intro p e s m args below meth c s₁ Bd hml0 hP hK
  obtain ⟨rfl, hZ, hh⟩ := hP
  have hx := Bd.exec
  have hby := Bd.bytes
  have hml : c.maxLocals = 8 := hml0
  have hown : s.vm.findClass "java/util/Arrays" = some m.cls := findClass_of_methodNamed Bd.named
  have hnm := (name_of_methodNamed Bd.named Bd.method).1
  have X0 : Stand p l e ({ frames := 0, cells := 0, slots := 0, locals := 0 } : Room) s m #[(.ref r_DIGIT), (.int 0), (.int 2), (.int 48)] below meth c s₁ [] 0 0 := Stand.of_body Bd
  have e0 : s₁.heap = h0 := by rw [← hh, Bd.state]; rfl
  have N0 := Fr.nil n0
  have pre0 : ∀ t, Steps p.tables e below (s₁.setTop (mkF m 0 #[.val (.ref r_DIGIT), .val (.int 0), .val (.int 2), .val (.int 48), .unset, .unset, .unset, .unset] [])) t → Steps p.tables e below (s₁.setTop (entryFrame m #[(.ref r_DIGIT), (.int 0), (.int 2), (.int 48)] 8)) t := fun t k => castTop (by first | (simp [entryFrame, mkF, argsToLocals, Value.category]; done) | rfl) k
  obtain ⟨fs, hr, hrun, hended, hW, hsame⟩ := X0.leave (v := some (.int 0)) (fun h => by rw [Bd.returns] at h; cases h)
  refine ⟨_, _, pre0 _ ?_, hrun, hended, _, _, rfl, ?_, ⟨_, rfl⟩, hW, hsame.mono (by decide) (by decide)⟩
  · show Steps p.tables e below (s₁.setTop (mkF m 0 #[.val (.ref r_DIGIT), .val (.int 0), .val (.int 2), .val (.int 48), .unset, .unset, .unset, .unset] [])) _
    refine XS.iloadN X0.here hx rfl (hb hby d4_0) rfl ?_
    show Steps p.tables e below (s₁.setTop (mkF m 1 #[.val (.ref r_DIGIT), .val (.int 0), .val (.int 2), .val (.int 48), .unset, .unset, .unset, .unset] [(.int 0)])) _
    refine XS.istore X0.here hx rfl (hb hby d4_1) rfl (l' := #[.val (.ref r_DIGIT), .val (.int 0), .val (.int 2), .val (.int 48), .val (.int 0), .unset, .unset, .unset]) rfl ?_
    show Steps p.tables e below (s₁.setTop (mkF m 3 #[.val (.ref r_DIGIT), .val (.int 0), .val (.int 2), .val (.int 48), .val (.int 0), .unset, .unset, .unset] [])) _
    refine XS.iloadN X0.here hx rfl (hb hby d4_3) rfl ?_
    show Steps p.tables e below (s₁.setTop (mkF m 4 #[.val (.ref r_DIGIT), .val (.int 0), .val (.int 2), .val (.int 48), .val (.int 0), .unset, .unset, .unset] [(.int 2)])) _
    refine XS.iconst X0.here hx rfl (hb hby d4_4) ?_
    show Steps p.tables e below (s₁.setTop (mkF m 5 #[.val (.ref r_DIGIT), .val (.int 0), .val (.int 2), .val (.int 48), .val (.int 0), .unset, .unset, .unset] [(.int 1), (.int 2)])) _
    refine XS.isub X0.here hx rfl (hb hby d4_5) rfl ?_
    show Steps p.tables e below (s₁.setTop (mkF m 6 #[.val (.ref r_DIGIT), .val (.int 0), .val (.int 2), .val (.int 48), .val (.int 0), .unset, .unset, .unset] [(.int ((2 : Int32) - (1 : Int32)))])) _
    rw [(by decide : ((2 : Int32) - (1 : Int32)) = (1 : Int32))]
    show Steps p.tables e below (s₁.setTop (mkF m 6 #[.val (.ref r_DIGIT), .val (.int 0), .val (.int 2), .val (.int 48), .val (.int 0), .unset, .unset, .unset] [(.int 1)])) _
    refine XS.istore X0.here hx rfl (hb hby d4_6) rfl (l' := #[.val (.ref r_DIGIT), .val (.int 0), .val (.int 2), .val (.int 48), .val (.int 0), .val (.int 1), .unset, .unset]) rfl ?_
    show Steps p.tables e below (s₁.setTop (mkF m 8 #[.val (.ref r_DIGIT), .val (.int 0), .val (.int 2), .val (.int 48), .val (.int 0), .val (.int 1), .unset, .unset] [])) _
    refine XS.iload X0.here hx rfl (hb hby d4_8) rfl ?_
    show Steps p.tables e below (s₁.setTop (mkF m 10 #[.val (.ref r_DIGIT), .val (.int 0), .val (.int 2), .val (.int 48), .val (.int 0), .val (.int 1), .unset, .unset] [(.int 0)])) _
    refine XS.iload X0.here hx rfl (hb hby d4_10) rfl ?_
    show Steps p.tables e below (s₁.setTop (mkF m 12 #[.val (.ref r_DIGIT), .val (.int 0), .val (.int 2), .val (.int 48), .val (.int 0), .val (.int 1), .unset, .unset] [(.int 1), (.int 0)])) _
    refine XS.icmpNo X0.here hx rfl (hb hby d4_12) rfl (flt (by decide : ¬ ((1 : Int32) < (0 : Int32)))).2.2.1 ?_
    show Steps p.tables e below (s₁.setTop (mkF m 15 #[.val (.ref r_DIGIT), .val (.int 0), .val (.int 2), .val (.int 48), .val (.int 0), .val (.int 1), .unset, .unset] [])) _
    refine XS.iload X0.here hx rfl (hb hby d4_15) rfl ?_
    show Steps p.tables e below (s₁.setTop (mkF m 17 #[.val (.ref r_DIGIT), .val (.int 0), .val (.int 2), .val (.int 48), .val (.int 0), .val (.int 1), .unset, .unset] [(.int 0)])) _
    refine XS.iload X0.here hx rfl (hb hby d4_17) rfl ?_
    show Steps p.tables e below (s₁.setTop (mkF m 19 #[.val (.ref r_DIGIT), .val (.int 0), .val (.int 2), .val (.int 48), .val (.int 0), .val (.int 1), .unset, .unset] [(.int 1), (.int 0)])) _
    refine XS.iadd X0.here hx rfl (hb hby d4_19) rfl ?_
    show Steps p.tables e below (s₁.setTop (mkF m 20 #[.val (.ref r_DIGIT), .val (.int 0), .val (.int 2), .val (.int 48), .val (.int 0), .val (.int 1), .unset, .unset] [(.int ((0 : Int32) + (1 : Int32)))])) _
    rw [(by decide : ((0 : Int32) + (1 : Int32)) = (1 : Int32))]
    show Steps p.tables e below (s₁.setTop (mkF m 20 #[.val (.ref r_DIGIT), .val (.int 0), .val (.int 2), .val (.int 48), .val (.int 0), .val (.int 1), .unset, .unset] [(.int 1)])) _
    refine XS.iconst X0.here hx rfl (hb hby d4_20) ?_
    show Steps p.tables e below (s₁.setTop (mkF m 21 #[.val (.ref r_DIGIT), .val (.int 0), .val (.int 2), .val (.int 48), .val (.int 0), .val (.int 1), .unset, .unset] [(.int 1), (.int 1)])) _
    refine XS.iushr X0.here hx rfl (hb hby d4_21) rfl ?_
    show Steps p.tables e below (s₁.setTop (mkF m 22 #[.val (.ref r_DIGIT), .val (.int 0), .val (.int 2), .val (.int 48), .val (.int 0), .val (.int 1), .unset, .unset] [(.int (((1 : Int32).toUInt32 >>> ((1 : Int32) &&& 31).toUInt32).toInt32))])) _
    rw [(by decide : (((1 : Int32).toUInt32 >>> ((1 : Int32) &&& 31).toUInt32).toInt32) = (0 : Int32))]
    show Steps p.tables e below (s₁.setTop (mkF m 22 #[.val (.ref r_DIGIT), .val (.int 0), .val (.int 2), .val (.int 48), .val (.int 0), .val (.int 1), .unset, .unset] [(.int 0)])) _
    refine XS.istore X0.here hx rfl (hb hby d4_22) rfl (l' := #[.val (.ref r_DIGIT), .val (.int 0), .val (.int 2), .val (.int 48), .val (.int 0), .val (.int 1), .val (.int 0), .unset]) rfl ?_
    show Steps p.tables e below (s₁.setTop (mkF m 24 #[.val (.ref r_DIGIT), .val (.int 0), .val (.int 2), .val (.int 48), .val (.int 0), .val (.int 1), .val (.int 0), .unset] [])) _
    refine XS.aloadN X0.here hx rfl (hb hby d4_24) rfl rfl ?_
    show Steps p.tables e below (s₁.setTop (mkF m 25 #[.val (.ref r_DIGIT), .val (.int 0), .val (.int 2), .val (.int 48), .val (.int 0), .val (.int 1), .val (.int 0), .unset] [(.ref r_DIGIT)])) _
    refine XS.iload X0.here hx rfl (hb hby d4_25) rfl ?_
    show Steps p.tables e below (s₁.setTop (mkF m 27 #[.val (.ref r_DIGIT), .val (.int 0), .val (.int 2), .val (.int 48), .val (.int 0), .val (.int 1), .val (.int 0), .unset] [(.int 0), (.ref r_DIGIT)])) _
    refine own_ldI X0 hx hZ e0 V_r_DIGIT (j := (0 : Int32)) ⟨by decide, by decide⟩ rfl (g := (mkF m 27 #[.val (.ref r_DIGIT), .val (.int 0), .val (.int 2), .val (.int 48), .val (.int 0), .val (.int 1), .val (.int 0), .unset] [(.int 0), (.ref r_DIGIT)])) rfl rfl (hb hby d4_27) _ ?_
    show Steps p.tables e below (s₁.setTop (mkF m 28 #[.val (.ref r_DIGIT), .val (.int 0), .val (.int 2), .val (.int 48), .val (.int 0), .val (.int 1), .val (.int 0), .unset] [(.int 48)])) _
    refine XS.istore X0.here hx rfl (hb hby d4_28) rfl (l' := #[.val (.ref r_DIGIT), .val (.int 0), .val (.int 2), .val (.int 48), .val (.int 0), .val (.int 1), .val (.int 0), .val (.int 48)]) rfl ?_
    show Steps p.tables e below (s₁.setTop (mkF m 30 #[.val (.ref r_DIGIT), .val (.int 0), .val (.int 2), .val (.int 48), .val (.int 0), .val (.int 1), .val (.int 0), .val (.int 48)] [])) _
    refine XS.iload X0.here hx rfl (hb hby d4_30) rfl ?_
    show Steps p.tables e below (s₁.setTop (mkF m 32 #[.val (.ref r_DIGIT), .val (.int 0), .val (.int 2), .val (.int 48), .val (.int 0), .val (.int 1), .val (.int 0), .val (.int 48)] [(.int 48)])) _
    refine XS.iloadN X0.here hx rfl (hb hby d4_32) rfl ?_
    show Steps p.tables e below (s₁.setTop (mkF m 33 #[.val (.ref r_DIGIT), .val (.int 0), .val (.int 2), .val (.int 48), .val (.int 0), .val (.int 1), .val (.int 0), .val (.int 48)] [(.int 48), (.int 48)])) _
    refine XS.icmpYes X0.here hx rfl (pc0 := 33) (pc' := 45) rfl (hb hby d4_33) rfl (flt (by decide : ¬ ((48 : Int32) < (48 : Int32)))).2.1 (by decide) (by decide) ?_
    show Steps p.tables e below (s₁.setTop (mkF m 45 #[.val (.ref r_DIGIT), .val (.int 0), .val (.int 2), .val (.int 48), .val (.int 0), .val (.int 1), .val (.int 0), .val (.int 48)] [])) _
    refine XS.iload X0.here hx rfl (hb hby d4_45) rfl ?_
    show Steps p.tables e below (s₁.setTop (mkF m 47 #[.val (.ref r_DIGIT), .val (.int 0), .val (.int 2), .val (.int 48), .val (.int 0), .val (.int 1), .val (.int 0), .val (.int 48)] [(.int 48)])) _
    refine XS.iloadN X0.here hx rfl (hb hby d4_47) rfl ?_
    show Steps p.tables e below (s₁.setTop (mkF m 48 #[.val (.ref r_DIGIT), .val (.int 0), .val (.int 2), .val (.int 48), .val (.int 0), .val (.int 1), .val (.int 0), .val (.int 48)] [(.int 48), (.int 48)])) _
    refine XS.icmpYes X0.here hx rfl (pc0 := 48) (pc' := 60) rfl (hb hby d4_48) rfl (flt (by decide : ¬ ((48 : Int32) < (48 : Int32)))).2.2.2 (by decide) (by decide) ?_
    show Steps p.tables e below (s₁.setTop (mkF m 60 #[.val (.ref r_DIGIT), .val (.int 0), .val (.int 2), .val (.int 48), .val (.int 0), .val (.int 1), .val (.int 0), .val (.int 48)] [])) _
    refine XS.iload X0.here hx rfl (hb hby d4_60) rfl ?_
    show Steps p.tables e below (s₁.setTop (mkF m 62 #[.val (.ref r_DIGIT), .val (.int 0), .val (.int 2), .val (.int 48), .val (.int 0), .val (.int 1), .val (.int 0), .val (.int 48)] [(.int 0)])) _
    exact retI X0 hx Bd.returns (hb hby d4_62) hr
  · show Q4_r_DIGIT_0_2_48 Z r_DIGIT k_DIGIT h0 n0 _ s₁.heap _
    rw [e0]
    exact ⟨rfl, N0, rfl⟩
def Q3_r_DIGIT_48 (Z : State) (r_DIGIT : Addr) (k_DIGIT : ClassId) (h0 : Heap) (n0 : Nat) (v : Option Value) (h : Heap) (L : List Loc) : Prop := v = some (.int 0) ∧ Fr n0 L ∧ h = h0
set_option maxRecDepth 65536 in
set_option maxHeartbeats 40000000 in
theorem rm3_r_DIGIT_48 (l : Launch) (Z : State) (a0 : Array Value) (hw : ∀ d ∈ tables_1, d.before a0 Z = true) (ws : List Jvm.Cond) (r_DIGIT : Addr) (k_DIGIT : ClassId) (h0 : Heap) (n0 : Nat) (Z0 : n0 ≤ h0.size) (V_r_DIGIT : Arv Z h0 r_DIGIT k_DIGIT .int (2 : Int32) [(.int 48), (.int 57)] (.int (0 : Int32))) :
    MetFree l (⟨"java/util/Arrays", "binarySearch", "([II)I"⟩ : MethodName) (head1 (Jvm.Cond.code (⟨"java/util/Arrays", "binarySearch", "([II)I"⟩ : MethodName) jdk_65_method_57_code 2 (some .int) :: ws) ({ frames := 1, cells := 0, slots := 0, locals := 19 } : Room)) (fun a U => a = #[(.ref r_DIGIT), (.int 48)] ∧ Z.Warmed39 U.vm ∧ U.heap = h0) (fun _ _ _ _ _ => True) (fun _ U o U' => ∃ v L, o = .returned v ∧ Q3_r_DIGIT_48 Z r_DIGIT k_DIGIT h0 n0 v U'.heap L ∧ FrameEnd U o U' L ({ frames := 1, cells := 0, slots := 0, locals := 19 } : Room).cells ({ frames := 1, cells := 0, slots := 0, locals := 19 } : Room).slots) := by
  refine MetFree.of_bodySF (plainFor_of_name pn_3) hisR ?_
  intro p e s m args below meth c s₁ Bd hml0 hP hK
  obtain ⟨rfl, hZ, hh⟩ := hP
  have hx := Bd.exec
  have hby := Bd.bytes
  have hml : c.maxLocals = 2 := hml0
  have hown : s.vm.findClass "java/util/Arrays" = some m.cls := findClass_of_methodNamed Bd.named
  have hnm := (name_of_methodNamed Bd.named Bd.method).1
  have X0 : Stand p l e ({ frames := 1, cells := 0, slots := 0, locals := 19 } : Room) s m #[(.ref r_DIGIT), (.int 48)] below meth c s₁ [] 0 0 := Stand.of_body Bd
  have e0 : s₁.heap = h0 := by rw [← hh, Bd.state]; rfl
  have N0 := Fr.nil n0
  have pre0 : ∀ t, Steps p.tables e below (s₁.setTop (mkF m 0 #[.val (.ref r_DIGIT), .val (.int 48)] [])) t → Steps p.tables e below (s₁.setTop (entryFrame m #[(.ref r_DIGIT), (.int 48)] 2)) t := fun t k => castTop (by first | (simp [entryFrame, mkF, argsToLocals, Value.category]; done) | rfl) k
  obtain ⟨_, _, ⟨T1, L1, k1, n1⟩, -, X1, ⟨Lc1, hQ1, l1, y1, z1⟩, st1⟩ := Jvm.LawKit.callS X0 hx (y := (⟨"java/util/Arrays", "binarySearch0", "([IIII)I"⟩ : MethodName)) hown (mvT hZ (hw _ (List.mem_of_getElem? (i := 19) rfl))) (mvT hZ (hw _ (List.mem_of_getElem? (i := 20) rfl))) (mvT hZ (hw _ (List.mem_of_getElem? (i := 17) rfl))) (mvT hZ (hw _ (List.mem_of_getElem? (i := 21) rfl))) (by decide) (backOf (W := 0) (rm4_r_DIGIT_0_2_48 l Z a0 hw [] r_DIGIT k_DIGIT h0 n0 Z0 V_r_DIGIT) hZ (hw _ (List.mem_of_getElem? (i := 21) rfl)) (hw _ (List.mem_of_getElem? (i := 17) rfl)) (by decide) (by decide)) (g := (mkF m 5 #[.val (.ref r_DIGIT), .val (.int 48)] [(.int 48), (.int 2), (.int 0), (.ref r_DIGIT)])) rfl (by rw [hml]; rfl) (argsL := [(.ref r_DIGIT), (.int 0), (.int 2), (.int 48)]) (rest := []) (lenOf pd___IIII_I rfl) rfl (by show 2 * 0 + _ ≤ _; exact Nat.le_of_eq rfl) (hb hby d3_5) (fun _ _ => ⟨rfl, e0, (by decide : 0 + 0 ≤ _), (by decide : 0 + 0 ≤ _)⟩)
  dsimp only [Pt.U, Pt.locs, Pt.cells, Pt.slots] at X1 l1 y1 z1 st1 hQ1
  subst l1 y1 z1
  obtain ⟨rfl, N1q, e1⟩ := hQ1
  have N1 := Fr.app N0 N1q
  obtain ⟨fs, hr, hrun, hended, hW, hsame⟩ := X1.leave (v := some (.int 0)) (fun h => by rw [Bd.returns] at h; cases h)
  refine ⟨_, _, pre0 _ ?_, hrun, hended, _, _, rfl, ?_, ⟨_, rfl⟩, hW, hsame.mono (by decide) (by decide)⟩
  · show Steps p.tables e below (s₁.setTop (mkF m 0 #[.val (.ref r_DIGIT), .val (.int 48)] [])) _
    refine XS.aloadN X0.here hx rfl (hb hby d3_0) rfl rfl ?_
    show Steps p.tables e below (s₁.setTop (mkF m 1 #[.val (.ref r_DIGIT), .val (.int 48)] [(.ref r_DIGIT)])) _
    refine XS.iconst X0.here hx rfl (hb hby d3_1) ?_
    show Steps p.tables e below (s₁.setTop (mkF m 2 #[.val (.ref r_DIGIT), .val (.int 48)] [(.int 0), (.ref r_DIGIT)])) _
    refine XS.aloadN X0.here hx rfl (hb hby d3_2) rfl rfl ?_
    show Steps p.tables e below (s₁.setTop (mkF m 3 #[.val (.ref r_DIGIT), .val (.int 48)] [(.ref r_DIGIT), (.int 0), (.ref r_DIGIT)])) _
    refine own_lenz X0 hx hZ e0 V_r_DIGIT (g := (mkF m 3 #[.val (.ref r_DIGIT), .val (.int 48)] [(.ref r_DIGIT), (.int 0), (.ref r_DIGIT)])) rfl rfl (hb hby d3_3) _ ?_
    show Steps p.tables e below (s₁.setTop (mkF m 4 #[.val (.ref r_DIGIT), .val (.int 48)] [(.int 2), (.int 0), (.ref r_DIGIT)])) _
    refine XS.iloadN X0.here hx rfl (hb hby d3_4) rfl ?_
    show Steps p.tables e below (s₁.setTop (mkF m 5 #[.val (.ref r_DIGIT), .val (.int 48)] [(.int 48), (.int 2), (.int 0), (.ref r_DIGIT)])) _
    refine st1 _ ?_
    show Steps p.tables e below (T1.setTop (mkF m 8 #[.val (.ref r_DIGIT), .val (.int 48)] [(.int 0)])) _
    exact retI X1 hx Bd.returns (hb hby d3_8) hr
  · show Q3_r_DIGIT_48 Z r_DIGIT k_DIGIT h0 n0 _ T1.heap _
    rw [e1]
    exact ⟨rfl, N1, rfl⟩
def Q2_w_DIGIT_48_all_DIGIT (Z : State) (w_DIGIT : Addr) (r_DIGIT : Addr) (k_DIGIT : ClassId) (h0 : Heap) (n0 : Nat) (v : Option Value) (h : Heap) (L : List Loc) : Prop := v = some (.int (own_d (48 : Int32))) ∧ Fr n0 L ∧ h = h0
set_option maxRecDepth 65536 in
set_option maxHeartbeats 40000000 in
theorem rm2_w_DIGIT_48_all_DIGIT (l : Launch) (Z : State) (a0 : Array Value) (hw : ∀ d ∈ tables_1, d.before a0 Z = true) (ws : List Jvm.Cond) (w_DIGIT : Addr) (r_DIGIT : Addr) (k_DIGIT : ClassId) (h0 : Heap) (n0 : Nat) (Z0 : n0 ≤ h0.size) (F_ranges_w_DIGIT : Fld Z h0 w_DIGIT "com/example/termwell/termwell/core/text/CodePointSet" "ranges" "[I" (.ref r_DIGIT)) (V_r_DIGIT : Arv Z h0 r_DIGIT k_DIGIT .int (2 : Int32) [(.int 48), (.int 57)] (.int (0 : Int32))) (hret : (own_d (48 : Int32)) = (1 : Int32)) :
    MetFree l (⟨"com/example/termwell/termwell/core/text/CodePointSet", "contains", "(I)Z"⟩ : MethodName) (head1 (Jvm.Cond.code (⟨"com/example/termwell/termwell/core/text/CodePointSet", "contains", "(I)Z"⟩ : MethodName) prog_19_method_4_code 3 (some .boolean) :: ws) ({ frames := 2, cells := 0, slots := 0, locals := 32 } : Room)) (fun a U => a = #[(.ref w_DIGIT), (.int 48)] ∧ Z.Warmed39 U.vm ∧ U.heap = h0) (fun _ _ _ _ _ => True) (fun _ U o U' => ∃ v L, o = .returned v ∧ Q2_w_DIGIT_48_all_DIGIT Z w_DIGIT r_DIGIT k_DIGIT h0 n0 v U'.heap L ∧ FrameEnd U o U' L ({ frames := 2, cells := 0, slots := 0, locals := 32 } : Room).cells ({ frames := 2, cells := 0, slots := 0, locals := 32 } : Room).slots) := by
  refine MetFree.of_bodySF (plainFor_of_name pn_2) hisR ?_
  intro p e s m args below meth c s₁ Bd hml0 hP hK
  obtain ⟨rfl, hZ, hh⟩ := hP
  have hx := Bd.exec
  have hby := Bd.bytes
  have hml : c.maxLocals = 3 := hml0
  have hown : s.vm.findClass "com/example/termwell/termwell/core/text/CodePointSet" = some m.cls := findClass_of_methodNamed Bd.named
  have hnm := (name_of_methodNamed Bd.named Bd.method).1
  have X0 : Stand p l e ({ frames := 2, cells := 0, slots := 0, locals := 32 } : Room) s m #[(.ref w_DIGIT), (.int 48)] below meth c s₁ [] 0 0 := Stand.of_body Bd
  have e0 : s₁.heap = h0 := by rw [← hh, Bd.state]; rfl
  have N0 := Fr.nil n0
  have pre0 : ∀ t, Steps p.tables e below (s₁.setTop (mkF m 0 #[.val (.ref w_DIGIT), .val (.int 48), .unset] [])) t → Steps p.tables e below (s₁.setTop (entryFrame m #[(.ref w_DIGIT), (.int 48)] 3)) t := fun t k => castTop (by first | (simp [entryFrame, mkF, argsToLocals, Value.category]; done) | rfl) k
  obtain ⟨T1, X1, e1, st1⟩ := getF X0 hx hZ hown (host := "") (Or.inl (hw _ (List.mem_of_getElem? (i := 13) rfl))) Via.refl e0 F_ranges_w_DIGIT (g := (mkF m 1 #[.val (.ref w_DIGIT), .val (.int 48), .unset] [(.ref w_DIGIT)])) rfl rfl (hb hby d2_1)
  obtain ⟨_, _, ⟨T2, L2, k2, n2⟩, -, X2, ⟨Lc2, hQ2, l2, y2, z2⟩, st2⟩ := Jvm.LawKit.callS X1 hx (y := (⟨"java/util/Arrays", "binarySearch", "([II)I"⟩ : MethodName)) hown (mvT hZ (hw _ (List.mem_of_getElem? (i := 15) rfl))) (mvT hZ (hw _ (List.mem_of_getElem? (i := 16) rfl))) (mvT hZ (hw _ (List.mem_of_getElem? (i := 17) rfl))) (mvT hZ (hw _ (List.mem_of_getElem? (i := 18) rfl))) (by decide) (backOf (W := 0) (rm3_r_DIGIT_48 l Z a0 hw [] r_DIGIT k_DIGIT h0 n0 Z0 V_r_DIGIT) hZ (hw _ (List.mem_of_getElem? (i := 18) rfl)) (hw _ (List.mem_of_getElem? (i := 17) rfl)) (by decide) (by decide)) (g := (mkF m 5 #[.val (.ref w_DIGIT), .val (.int 48), .unset] [(.int 48), (.ref r_DIGIT)])) rfl (by rw [hml]; rfl) (argsL := [(.ref r_DIGIT), (.int 48)]) (rest := []) (lenOf pd___II_I rfl) rfl (by show 2 * 0 + _ ≤ _; exact Nat.le_of_eq rfl) (hb hby d2_5) (fun _ _ => ⟨rfl, e1, (by decide : 0 + 0 ≤ _), (by decide : 0 + 0 ≤ _)⟩)
  dsimp only [Pt.U, Pt.locs, Pt.cells, Pt.slots] at X2 l2 y2 z2 st2 hQ2
  subst l2 y2 z2
  obtain ⟨rfl, N2q, e2⟩ := hQ2
  have N2 := Fr.app N0 N2q
  obtain ⟨fs, hr, hrun, hended, hW, hsame⟩ := X2.leave (v := some (.int 1)) (fun h => by rw [Bd.returns] at h; cases h)
  refine ⟨_, _, pre0 _ ?_, hrun, hended, _, _, rfl, ?_, ⟨_, rfl⟩, hW, hsame.mono (by decide) (by decide)⟩
  · show Steps p.tables e below (s₁.setTop (mkF m 0 #[.val (.ref w_DIGIT), .val (.int 48), .unset] [])) _
    refine XS.aloadN X0.here hx rfl (hb hby d2_0) rfl rfl ?_
    show Steps p.tables e below (s₁.setTop (mkF m 1 #[.val (.ref w_DIGIT), .val (.int 48), .unset] [(.ref w_DIGIT)])) _
    refine st1 _ ?_
    show Steps p.tables e below (T1.setTop (mkF m 4 #[.val (.ref w_DIGIT), .val (.int 48), .unset] [(.ref r_DIGIT)])) _
    refine XS.iloadN X1.here hx rfl (hb hby d2_4) rfl ?_
    show Steps p.tables e below (T1.setTop (mkF m 5 #[.val (.ref w_DIGIT), .val (.int 48), .unset] [(.int 48), (.ref r_DIGIT)])) _
    refine st2 _ ?_
    show Steps p.tables e below (T2.setTop (mkF m 8 #[.val (.ref w_DIGIT), .val (.int 48), .unset] [(.int 0)])) _
    refine XS.istoreN X2.here hx rfl (hb hby d2_8) rfl (l' := #[.val (.ref w_DIGIT), .val (.int 48), .val (.int 0)]) rfl ?_
    show Steps p.tables e below (T2.setTop (mkF m 9 #[.val (.ref w_DIGIT), .val (.int 48), .val (.int 0)] [])) _
    refine XS.iloadN X2.here hx rfl (hb hby d2_9) rfl ?_
    show Steps p.tables e below (T2.setTop (mkF m 10 #[.val (.ref w_DIGIT), .val (.int 48), .val (.int 0)] [(.int 0)])) _
    refine XS.ifYes X2.here hx rfl (pc0 := 10) (pc' := 23) rfl (hb hby d2_10) rfl ((if0 _ _).trans (flt (by decide : ¬ ((0 : Int32) < (0 : Int32)))).2.1) (by decide) (by decide) ?_
    show Steps p.tables e below (T2.setTop (mkF m 23 #[.val (.ref w_DIGIT), .val (.int 48), .val (.int 0)] [])) _
    refine XS.iconst X2.here hx rfl (hb hby d2_23) ?_
    show Steps p.tables e below (T2.setTop (mkF m 24 #[.val (.ref w_DIGIT), .val (.int 48), .val (.int 0)] [(.int 1)])) _
    refine XS.goto X2.here hx rfl (pc0 := 24) (pc' := 28) rfl (hb hby d2_24) (by decide) (by decide) ?_
    show Steps p.tables e below (T2.setTop (mkF m 28 #[.val (.ref w_DIGIT), .val (.int 48), .val (.int 0)] [(.int 1)])) _
    exact retN X2 hx (t := .boolean) Bd.returns (by simp) (hb hby d2_28) hr
  · show Q2_w_DIGIT_48_all_DIGIT Z w_DIGIT r_DIGIT k_DIGIT h0 n0 _ T2.heap _
    rw [e2]
    exact ⟨(by rw [hret]), N2, rfl⟩
def Q4_r_DIGIT_0_2_x_48_57 (Z : State) (r_DIGIT : Addr) (x : Int32) (k_DIGIT : ClassId) (h0 : Heap) (n0 : Nat) (v : Option Value) (h : Heap) (L : List Loc) : Prop := v = some (.int (-2)) ∧ Fr n0 L ∧ h = h0
set_option maxRecDepth 65536 in
set_option maxHeartbeats 40000000 in
theorem rm4_r_DIGIT_0_2_x_48_57 (l : Launch) (Z : State) (a0 : Array Value) (hw : ∀ d ∈ tables_1, d.before a0 Z = true) (ws : List Jvm.Cond) (r_DIGIT : Addr) (x : Int32) (k_DIGIT : ClassId) (h0 : Heap) (n0 : Nat) (Z0 : n0 ≤ h0.size) (hlo_x : (48 : Int32) < x) (V_r_DIGIT : Arv Z h0 r_DIGIT k_DIGIT .int (2 : Int32) [(.int 48), (.int 57)] (.int (0 : Int32))) (hhi_x : x < (57 : Int32)) :
    MetFree l (⟨"java/util/Arrays", "binarySearch0", "([IIII)I"⟩ : MethodName) (head1 (Jvm.Cond.code (⟨"java/util/Arrays", "binarySearch0", "([IIII)I"⟩ : MethodName) jdk_65_method_59_code 8 (some .int) :: ws) ({ frames := 0, cells := 0, slots := 0, locals := 0 } : Room)) (fun a U => a = #[(.ref r_DIGIT), (.int 0), (.int 2), (.int x)] ∧ Z.Warmed39 U.vm ∧ U.heap = h0) (fun _ _ _ _ _ => True) (fun _ U o U' => ∃ v L, o = .returned v ∧ Q4_r_DIGIT_0_2_x_48_57 Z r_DIGIT x k_DIGIT h0 n0 v U'.heap L ∧ FrameEnd U o U' L ({ frames := 0, cells := 0, slots := 0, locals := 0 } : Room).cells ({ frames := 0, cells := 0, slots := 0, locals := 0 } : Room).slots) := by
  refine MetFree.of_bodySF (plainFor_of_name pn_4) hisR ?_
  intro p e s m args below meth c s₁ Bd hml0 hP hK
  obtain ⟨rfl, hZ, hh⟩ := hP
  have hx := Bd.exec
  have hby := Bd.bytes
  have hml : c.maxLocals = 8 := hml0
  have hown : s.vm.findClass "java/util/Arrays" = some m.cls := findClass_of_methodNamed Bd.named
  have hnm := (name_of_methodNamed Bd.named Bd.method).1
  have X0 : Stand p l e ({ frames := 0, cells := 0, slots := 0, locals := 0 } : Room) s m #[(.ref r_DIGIT), (.int 0), (.int 2), (.int x)] below meth c s₁ [] 0 0 := Stand.of_body Bd
  have e0 : s₁.heap = h0 := by rw [← hh, Bd.state]; rfl
  have N0 := Fr.nil n0
  have pre0 : ∀ t, Steps p.tables e below (s₁.setTop (mkF m 0 #[.val (.ref r_DIGIT), .val (.int 0), .val (.int 2), .val (.int x), .unset, .unset, .unset, .unset] [])) t → Steps p.tables e below (s₁.setTop (entryFrame m #[(.ref r_DIGIT), (.int 0), (.int 2), (.int x)] 8)) t := fun t k => castTop (by first | (simp [entryFrame, mkF, argsToLocals, Value.category]; done) | rfl) k
  obtain ⟨fs, hr, hrun, hended, hW, hsame⟩ := X0.leave (v := some (.int (-2))) (fun h => by rw [Bd.returns] at h; cases h)
  refine ⟨_, _, pre0 _ ?_, hrun, hended, _, _, rfl, ?_, ⟨_, rfl⟩, hW, hsame.mono (by decide) (by decide)⟩
  · show Steps p.tables e below (s₁.setTop (mkF m 0 #[.val (.ref r_DIGIT), .val (.int 0), .val (.int 2), .val (.int x), .unset, .unset, .unset, .unset] [])) _
    refine XS.iloadN X0.here hx rfl (hb hby d4_0) rfl ?_
    show Steps p.tables e below (s₁.setTop (mkF m 1 #[.val (.ref r_DIGIT), .val (.int 0), .val (.int 2), .val (.int x), .unset, .unset, .unset, .unset] [(.int 0)])) _
    refine XS.istore X0.here hx rfl (hb hby d4_1) rfl (l' := #[.val (.ref r_DIGIT), .val (.int 0), .val (.int 2), .val (.int x), .val (.int 0), .unset, .unset, .unset]) rfl ?_
    show Steps p.tables e below (s₁.setTop (mkF m 3 #[.val (.ref r_DIGIT), .val (.int 0), .val (.int 2), .val (.int x), .val (.int 0), .unset, .unset, .unset] [])) _
    refine XS.iloadN X0.here hx rfl (hb hby d4_3) rfl ?_
    show Steps p.tables e below (s₁.setTop (mkF m 4 #[.val (.ref r_DIGIT), .val (.int 0), .val (.int 2), .val (.int x), .val (.int 0), .unset, .unset, .unset] [(.int 2)])) _
    refine XS.iconst X0.here hx rfl (hb hby d4_4) ?_
    show Steps p.tables e below (s₁.setTop (mkF m 5 #[.val (.ref r_DIGIT), .val (.int 0), .val (.int 2), .val (.int x), .val (.int 0), .unset, .unset, .unset] [(.int 1), (.int 2)])) _
    refine XS.isub X0.here hx rfl (hb hby d4_5) rfl ?_
    show Steps p.tables e below (s₁.setTop (mkF m 6 #[.val (.ref r_DIGIT), .val (.int 0), .val (.int 2), .val (.int x), .val (.int 0), .unset, .unset, .unset] [(.int ((2 : Int32) - (1 : Int32)))])) _
    rw [(by decide : ((2 : Int32) - (1 : Int32)) = (1 : Int32))]
    show Steps p.tables e below (s₁.setTop (mkF m 6 #[.val (.ref r_DIGIT), .val (.int 0), .val (.int 2), .val (.int x), .val (.int 0), .unset, .unset, .unset] [(.int 1)])) _
    refine XS.istore X0.here hx rfl (hb hby d4_6) rfl (l' := #[.val (.ref r_DIGIT), .val (.int 0), .val (.int 2), .val (.int x), .val (.int 0), .val (.int 1), .unset, .unset]) rfl ?_
    show Steps p.tables e below (s₁.setTop (mkF m 8 #[.val (.ref r_DIGIT), .val (.int 0), .val (.int 2), .val (.int x), .val (.int 0), .val (.int 1), .unset, .unset] [])) _
    refine tnLu r_DIGIT (0 : Int32) (2 : Int32) x (0 : Int32) (1 : Int32) (0 : Int32) k_DIGIT (2 : Int32) [(.int 48), (.int 57)] (.int (0 : Int32)) (48 : Int32) (1 : Int32) X0 hx hZ hby e0 (by decide) (by decide) V_r_DIGIT ⟨by decide, by decide⟩ rfl (own_gt hlo_x (by decide)) (by decide) _ ?_
    show Steps p.tables e below (s₁.setTop (mkF m 8 #[.val (.ref r_DIGIT), .val (.int 0), .val (.int 2), .val (.int x), .val (.int 1), .val (.int 1), .val (.int 0), .val (.int 48)] [])) _
    refine tnGv r_DIGIT (0 : Int32) (2 : Int32) x (1 : Int32) (1 : Int32) (0 : Int32) (48 : Int32) (1 : Int32) k_DIGIT (2 : Int32) [(.int 48), (.int 57)] (.int (0 : Int32)) (57 : Int32) (0 : Int32) X0 hx hZ hby e0 (by decide) (by decide) V_r_DIGIT ⟨by decide, by decide⟩ rfl (own_ngt hhi_x (by decide)) (own_lt hhi_x (by decide)) (by decide) _ ?_
    show Steps p.tables e below (s₁.setTop (mkF m 8 #[.val (.ref r_DIGIT), .val (.int 0), .val (.int 2), .val (.int x), .val (.int 1), .val (.int 0), .val (.int 1), .val (.int 57)] [])) _
    refine XS.iload X0.here hx rfl (hb hby d4_8) rfl ?_
    show Steps p.tables e below (s₁.setTop (mkF m 10 #[.val (.ref r_DIGIT), .val (.int 0), .val (.int 2), .val (.int x), .val (.int 1), .val (.int 0), .val (.int 1), .val (.int 57)] [(.int 1)])) _
    refine XS.iload X0.here hx rfl (hb hby d4_10) rfl ?_
    show Steps p.tables e below (s₁.setTop (mkF m 12 #[.val (.ref r_DIGIT), .val (.int 0), .val (.int 2), .val (.int x), .val (.int 1), .val (.int 0), .val (.int 1), .val (.int 57)] [(.int 0), (.int 1)])) _
    refine XS.icmpYes X0.here hx rfl (pc0 := 12) (pc' := 66) rfl (hb hby d4_12) rfl (tlt (by decide : (0 : Int32) < (1 : Int32))).2.2.1 (by decide) (by decide) ?_
    show Steps p.tables e below (s₁.setTop (mkF m 66 #[.val (.ref r_DIGIT), .val (.int 0), .val (.int 2), .val (.int x), .val (.int 1), .val (.int 0), .val (.int 1), .val (.int 57)] [])) _
    refine XS.iload X0.here hx rfl (hb hby d4_66) rfl ?_
    show Steps p.tables e below (s₁.setTop (mkF m 68 #[.val (.ref r_DIGIT), .val (.int 0), .val (.int 2), .val (.int x), .val (.int 1), .val (.int 0), .val (.int 1), .val (.int 57)] [(.int 1)])) _
    refine XS.iconst X0.here hx rfl (hb hby d4_68) ?_
    show Steps p.tables e below (s₁.setTop (mkF m 69 #[.val (.ref r_DIGIT), .val (.int 0), .val (.int 2), .val (.int x), .val (.int 1), .val (.int 0), .val (.int 1), .val (.int 57)] [(.int 1), (.int 1)])) _
    refine XS.iadd X0.here hx rfl (hb hby d4_69) rfl ?_
    show Steps p.tables e below (s₁.setTop (mkF m 70 #[.val (.ref r_DIGIT), .val (.int 0), .val (.int 2), .val (.int x), .val (.int 1), .val (.int 0), .val (.int 1), .val (.int 57)] [(.int ((1 : Int32) + (1 : Int32)))])) _
    rw [(by decide : ((1 : Int32) + (1 : Int32)) = (2 : Int32))]
    show Steps p.tables e below (s₁.setTop (mkF m 70 #[.val (.ref r_DIGIT), .val (.int 0), .val (.int 2), .val (.int x), .val (.int 1), .val (.int 0), .val (.int 1), .val (.int 57)] [(.int 2)])) _
    refine XS.ineg X0.here hx rfl (hb hby d4_70) rfl ?_
    show Steps p.tables e below (s₁.setTop (mkF m 71 #[.val (.ref r_DIGIT), .val (.int 0), .val (.int 2), .val (.int x), .val (.int 1), .val (.int 0), .val (.int 1), .val (.int 57)] [(.int (-(2 : Int32)))])) _
    rw [(by decide : (-(2 : Int32)) = (-2 : Int32))]
    show Steps p.tables e below (s₁.setTop (mkF m 71 #[.val (.ref r_DIGIT), .val (.int 0), .val (.int 2), .val (.int x), .val (.int 1), .val (.int 0), .val (.int 1), .val (.int 57)] [(.int (-2))])) _
    exact retI X0 hx Bd.returns (hb hby d4_71) hr
  · show Q4_r_DIGIT_0_2_x_48_57 Z r_DIGIT x k_DIGIT h0 n0 _ s₁.heap _
    rw [e0]
    exact ⟨rfl, N0, rfl⟩
def Q3_r_DIGIT_x_48_57 (Z : State) (r_DIGIT : Addr) (x : Int32) (k_DIGIT : ClassId) (h0 : Heap) (n0 : Nat) (v : Option Value) (h : Heap) (L : List Loc) : Prop := v = some (.int (-2)) ∧ Fr n0 L ∧ h = h0
set_option maxRecDepth 65536 in
set_option maxHeartbeats 40000000 in
theorem rm3_r_DIGIT_x_48_57 (l : Launch) (Z : State) (a0 : Array Value) (hw : ∀ d ∈ tables_1, d.before a0 Z = true) (ws : List Jvm.Cond) (r_DIGIT : Addr) (x : Int32) (k_DIGIT : ClassId) (h0 : Heap) (n0 : Nat) (Z0 : n0 ≤ h0.size) (V_r_DIGIT : Arv Z h0 r_DIGIT k_DIGIT .int (2 : Int32) [(.int 48), (.int 57)] (.int (0 : Int32))) (hlo_x : (48 : Int32) < x) (hhi_x : x < (57 : Int32)) :
    MetFree l (⟨"java/util/Arrays", "binarySearch", "([II)I"⟩ : MethodName) (head1 (Jvm.Cond.code (⟨"java/util/Arrays", "binarySearch", "([II)I"⟩ : MethodName) jdk_65_method_57_code 2 (some .int) :: ws) ({ frames := 1, cells := 0, slots := 0, locals := 19 } : Room)) (fun a U => a = #[(.ref r_DIGIT), (.int x)] ∧ Z.Warmed39 U.vm ∧ U.heap = h0) (fun _ _ _ _ _ => True) (fun _ U o U' => ∃ v L, o = .returned v ∧ Q3_r_DIGIT_x_48_57 Z r_DIGIT x k_DIGIT h0 n0 v U'.heap L ∧ FrameEnd U o U' L ({ frames := 1, cells := 0, slots := 0, locals := 19 } : Room).cells ({ frames := 1, cells := 0, slots := 0, locals := 19 } : Room).slots) := by
  refine MetFree.of_bodySF (plainFor_of_name pn_3) hisR ?_
  intro p e s m args below meth c s₁ Bd hml0 hP hK
  obtain ⟨rfl, hZ, hh⟩ := hP
  have hx := Bd.exec
  have hby := Bd.bytes
  have hml : c.maxLocals = 2 := hml0
  have hown : s.vm.findClass "java/util/Arrays" = some m.cls := findClass_of_methodNamed Bd.named
  have hnm := (name_of_methodNamed Bd.named Bd.method).1
  have X0 : Stand p l e ({ frames := 1, cells := 0, slots := 0, locals := 19 } : Room) s m #[(.ref r_DIGIT), (.int x)] below meth c s₁ [] 0 0 := Stand.of_body Bd
  have e0 : s₁.heap = h0 := by rw [← hh, Bd.state]; rfl
  have N0 := Fr.nil n0
  have pre0 : ∀ t, Steps p.tables e below (s₁.setTop (mkF m 0 #[.val (.ref r_DIGIT), .val (.int x)] [])) t → Steps p.tables e below (s₁.setTop (entryFrame m #[(.ref r_DIGIT), (.int x)] 2)) t := fun t k => castTop (by first | (simp [entryFrame, mkF, argsToLocals, Value.category]; done) | rfl) k
  obtain ⟨_, _, ⟨T1, L1, k1, n1⟩, -, X1, ⟨Lc1, hQ1, l1, y1, z1⟩, st1⟩ := Jvm.LawKit.callS X0 hx (y := (⟨"java/util/Arrays", "binarySearch0", "([IIII)I"⟩ : MethodName)) hown (mvT hZ (hw _ (List.mem_of_getElem? (i := 19) rfl))) (mvT hZ (hw _ (List.mem_of_getElem? (i := 20) rfl))) (mvT hZ (hw _ (List.mem_of_getElem? (i := 17) rfl))) (mvT hZ (hw _ (List.mem_of_getElem? (i := 21) rfl))) (by decide) (backOf (W := 0) (rm4_r_DIGIT_0_2_x_48_57 l Z a0 hw [] r_DIGIT x k_DIGIT h0 n0 Z0 hlo_x V_r_DIGIT hhi_x) hZ (hw _ (List.mem_of_getElem? (i := 21) rfl)) (hw _ (List.mem_of_getElem? (i := 17) rfl)) (by decide) (by decide)) (g := (mkF m 5 #[.val (.ref r_DIGIT), .val (.int x)] [(.int x), (.int 2), (.int 0), (.ref r_DIGIT)])) rfl (by rw [hml]; rfl) (argsL := [(.ref r_DIGIT), (.int 0), (.int 2), (.int x)]) (rest := []) (lenOf pd___IIII_I rfl) rfl (by show 2 * 0 + _ ≤ _; exact Nat.le_of_eq rfl) (hb hby d3_5) (fun _ _ => ⟨rfl, e0, (by decide : 0 + 0 ≤ _), (by decide : 0 + 0 ≤ _)⟩)
  dsimp only [Pt.U, Pt.locs, Pt.cells, Pt.slots] at X1 l1 y1 z1 st1 hQ1
  subst l1 y1 z1
  obtain ⟨rfl, N1q, e1⟩ := hQ1
  have N1 := Fr.app N0 N1q
  obtain ⟨fs, hr, hrun, hended, hW, hsame⟩ := X1.leave (v := some (.int (-2))) (fun h => by rw [Bd.returns] at h; cases h)
  refine ⟨_, _, pre0 _ ?_, hrun, hended, _, _, rfl, ?_, ⟨_, rfl⟩, hW, hsame.mono (by decide) (by decide)⟩
  · show Steps p.tables e below (s₁.setTop (mkF m 0 #[.val (.ref r_DIGIT), .val (.int x)] [])) _
    refine XS.aloadN X0.here hx rfl (hb hby d3_0) rfl rfl ?_
    show Steps p.tables e below (s₁.setTop (mkF m 1 #[.val (.ref r_DIGIT), .val (.int x)] [(.ref r_DIGIT)])) _
    refine XS.iconst X0.here hx rfl (hb hby d3_1) ?_
    show Steps p.tables e below (s₁.setTop (mkF m 2 #[.val (.ref r_DIGIT), .val (.int x)] [(.int 0), (.ref r_DIGIT)])) _
    refine XS.aloadN X0.here hx rfl (hb hby d3_2) rfl rfl ?_
    show Steps p.tables e below (s₁.setTop (mkF m 3 #[.val (.ref r_DIGIT), .val (.int x)] [(.ref r_DIGIT), (.int 0), (.ref r_DIGIT)])) _
    refine own_lenz X0 hx hZ e0 V_r_DIGIT (g := (mkF m 3 #[.val (.ref r_DIGIT), .val (.int x)] [(.ref r_DIGIT), (.int 0), (.ref r_DIGIT)])) rfl rfl (hb hby d3_3) _ ?_
    show Steps p.tables e below (s₁.setTop (mkF m 4 #[.val (.ref r_DIGIT), .val (.int x)] [(.int 2), (.int 0), (.ref r_DIGIT)])) _
    refine XS.iloadN X0.here hx rfl (hb hby d3_4) rfl ?_
    show Steps p.tables e below (s₁.setTop (mkF m 5 #[.val (.ref r_DIGIT), .val (.int x)] [(.int x), (.int 2), (.int 0), (.ref r_DIGIT)])) _
    refine st1 _ ?_
    show Steps p.tables e below (T1.setTop (mkF m 8 #[.val (.ref r_DIGIT), .val (.int x)] [(.int (-2))])) _
    exact retI X1 hx Bd.returns (hb hby d3_8) hr
  · show Q3_r_DIGIT_x_48_57 Z r_DIGIT x k_DIGIT h0 n0 _ T1.heap _
    rw [e1]
    exact ⟨rfl, N1, rfl⟩
def Q2_w_DIGIT_x_48_57_all_DIGIT (Z : State) (w_DIGIT : Addr) (x : Int32) (r_DIGIT : Addr) (k_DIGIT : ClassId) (h0 : Heap) (n0 : Nat) (v : Option Value) (h : Heap) (L : List Loc) : Prop := v = some (.int (own_d x)) ∧ Fr n0 L ∧ h = h0
set_option maxRecDepth 65536 in
set_option maxHeartbeats 40000000 in
theorem rm2_w_DIGIT_x_48_57_all_DIGIT (l : Launch) (Z : State) (a0 : Array Value) (hw : ∀ d ∈ tables_1, d.before a0 Z = true) (ws : List Jvm.Cond) (w_DIGIT : Addr) (x : Int32) (r_DIGIT : Addr) (k_DIGIT : ClassId) (h0 : Heap) (n0 : Nat) (Z0 : n0 ≤ h0.size) (F_ranges_w_DIGIT : Fld Z h0 w_DIGIT "com/example/termwell/termwell/core/text/CodePointSet" "ranges" "[I" (.ref r_DIGIT)) (V_r_DIGIT : Arv Z h0 r_DIGIT k_DIGIT .int (2 : Int32) [(.int 48), (.int 57)] (.int (0 : Int32))) (hlo_x : (48 : Int32) < x) (hhi_x : x < (57 : Int32)) (hret : (own_d x) = (1 : Int32)) :
    MetFree l (⟨"com/example/termwell/termwell/core/text/CodePointSet", "contains", "(I)Z"⟩ : MethodName) (head1 (Jvm.Cond.code (⟨"com/example/termwell/termwell/core/text/CodePointSet", "contains", "(I)Z"⟩ : MethodName) prog_19_method_4_code 3 (some .boolean) :: ws) ({ frames := 2, cells := 0, slots := 0, locals := 32 } : Room)) (fun a U => a = #[(.ref w_DIGIT), (.int x)] ∧ Z.Warmed39 U.vm ∧ U.heap = h0) (fun _ _ _ _ _ => True) (fun _ U o U' => ∃ v L, o = .returned v ∧ Q2_w_DIGIT_x_48_57_all_DIGIT Z w_DIGIT x r_DIGIT k_DIGIT h0 n0 v U'.heap L ∧ FrameEnd U o U' L ({ frames := 2, cells := 0, slots := 0, locals := 32 } : Room).cells ({ frames := 2, cells := 0, slots := 0, locals := 32 } : Room).slots) := by
  refine MetFree.of_bodySF (plainFor_of_name pn_2) hisR ?_
  intro p e s m args below meth c s₁ Bd hml0 hP hK
  obtain ⟨rfl, hZ, hh⟩ := hP
  have hx := Bd.exec
  have hby := Bd.bytes
  have hml : c.maxLocals = 3 := hml0
  have hown : s.vm.findClass "com/example/termwell/termwell/core/text/CodePointSet" = some m.cls := findClass_of_methodNamed Bd.named
  have hnm := (name_of_methodNamed Bd.named Bd.method).1
  have X0 : Stand p l e ({ frames := 2, cells := 0, slots := 0, locals := 32 } : Room) s m #[(.ref w_DIGIT), (.int x)] below meth c s₁ [] 0 0 := Stand.of_body Bd
  have e0 : s₁.heap = h0 := by rw [← hh, Bd.state]; rfl
  have N0 := Fr.nil n0
  have pre0 : ∀ t, Steps p.tables e below (s₁.setTop (mkF m 0 #[.val (.ref w_DIGIT), .val (.int x), .unset] [])) t → Steps p.tables e below (s₁.setTop (entryFrame m #[(.ref w_DIGIT), (.int x)] 3)) t := fun t k => castTop (by first | (simp [entryFrame, mkF, argsToLocals, Value.category]; done) | rfl) k
  obtain ⟨T1, X1, e1, st1⟩ := getF X0 hx hZ hown (host := "") (Or.inl (hw _ (List.mem_of_getElem? (i := 13) rfl))) Via.refl e0 F_ranges_w_DIGIT (g := (mkF m 1 #[.val (.ref w_DIGIT), .val (.int x), .unset] [(.ref w_DIGIT)])) rfl rfl (hb hby d2_1)
  obtain ⟨_, _, ⟨T2, L2, k2, n2⟩, -, X2, ⟨Lc2, hQ2, l2, y2, z2⟩, st2⟩ := Jvm.LawKit.callS X1 hx (y := (⟨"java/util/Arrays", "binarySearch", "([II)I"⟩ : MethodName)) hown (mvT hZ (hw _ (List.mem_of_getElem? (i := 15) rfl))) (mvT hZ (hw _ (List.mem_of_getElem? (i := 16) rfl))) (mvT hZ (hw _ (List.mem_of_getElem? (i := 17) rfl))) (mvT hZ (hw _ (List.mem_of_getElem? (i := 18) rfl))) (by decide) (backOf (W := 0) (rm3_r_DIGIT_x_48_57 l Z a0 hw [] r_DIGIT x k_DIGIT h0 n0 Z0 V_r_DIGIT hlo_x hhi_x) hZ (hw _ (List.mem_of_getElem? (i := 18) rfl)) (hw _ (List.mem_of_getElem? (i := 17) rfl)) (by decide) (by decide)) (g := (mkF m 5 #[.val (.ref w_DIGIT), .val (.int x), .unset] [(.int x), (.ref r_DIGIT)])) rfl (by rw [hml]; rfl) (argsL := [(.ref r_DIGIT), (.int x)]) (rest := []) (lenOf pd___II_I rfl) rfl (by show 2 * 0 + _ ≤ _; exact Nat.le_of_eq rfl) (hb hby d2_5) (fun _ _ => ⟨rfl, e1, (by decide : 0 + 0 ≤ _), (by decide : 0 + 0 ≤ _)⟩)
  dsimp only [Pt.U, Pt.locs, Pt.cells, Pt.slots] at X2 l2 y2 z2 st2 hQ2
  subst l2 y2 z2
  obtain ⟨rfl, N2q, e2⟩ := hQ2
  have N2 := Fr.app N0 N2q
  obtain ⟨fs, hr, hrun, hended, hW, hsame⟩ := X2.leave (v := some (.int 1)) (fun h => by rw [Bd.returns] at h; cases h)
  refine ⟨_, _, pre0 _ ?_, hrun, hended, _, _, rfl, ?_, ⟨_, rfl⟩, hW, hsame.mono (by decide) (by decide)⟩
  · show Steps p.tables e below (s₁.setTop (mkF m 0 #[.val (.ref w_DIGIT), .val (.int x), .unset] [])) _
    refine XS.aloadN X0.here hx rfl (hb hby d2_0) rfl rfl ?_
    show Steps p.tables e below (s₁.setTop (mkF m 1 #[.val (.ref w_DIGIT), .val (.int x), .unset] [(.ref w_DIGIT)])) _
    refine st1 _ ?_
    show Steps p.tables e below (T1.setTop (mkF m 4 #[.val (.ref w_DIGIT), .val (.int x), .unset] [(.ref r_DIGIT)])) _
    refine XS.iloadN X1.here hx rfl (hb hby d2_4) rfl ?_
    show Steps p.tables e below (T1.setTop (mkF m 5 #[.val (.ref w_DIGIT), .val (.int x), .unset] [(.int x), (.ref r_DIGIT)])) _
    refine st2 _ ?_
    show Steps p.tables e below (T2.setTop (mkF m 8 #[.val (.ref w_DIGIT), .val (.int x), .unset] [(.int (-2))])) _
    refine XS.istoreN X2.here hx rfl (hb hby d2_8) rfl (l' := #[.val (.ref w_DIGIT), .val (.int x), .val (.int (-2))]) rfl ?_
    show Steps p.tables e below (T2.setTop (mkF m 9 #[.val (.ref w_DIGIT), .val (.int x), .val (.int (-2))] [])) _
    refine XS.iloadN X2.here hx rfl (hb hby d2_9) rfl ?_
    show Steps p.tables e below (T2.setTop (mkF m 10 #[.val (.ref w_DIGIT), .val (.int x), .val (.int (-2))] [(.int (-2))])) _
    refine XS.ifNo X2.here hx rfl (hb hby d2_10) rfl ((if0 _ _).trans (tlt (by decide : (-2 : Int32) < (0 : Int32))).2.1) ?_
    show Steps p.tables e below (T2.setTop (mkF m 13 #[.val (.ref w_DIGIT), .val (.int x), .val (.int (-2))] [])) _
    refine XS.iloadN X2.here hx rfl (hb hby d2_13) rfl ?_
    show Steps p.tables e below (T2.setTop (mkF m 14 #[.val (.ref w_DIGIT), .val (.int x), .val (.int (-2))] [(.int (-2))])) _
    refine XS.ineg X2.here hx rfl (hb hby d2_14) rfl ?_
    show Steps p.tables e below (T2.setTop (mkF m 15 #[.val (.ref w_DIGIT), .val (.int x), .val (.int (-2))] [(.int (-(-2 : Int32)))])) _
    rw [(by decide : (-(-2 : Int32)) = (2 : Int32))]
    show Steps p.tables e below (T2.setTop (mkF m 15 #[.val (.ref w_DIGIT), .val (.int x), .val (.int (-2))] [(.int 2)])) _
    refine XS.iconst X2.here hx rfl (hb hby d2_15) ?_
    show Steps p.tables e below (T2.setTop (mkF m 16 #[.val (.ref w_DIGIT), .val (.int x), .val (.int (-2))] [(.int 1), (.int 2)])) _
    refine XS.isub X2.here hx rfl (hb hby d2_16) rfl ?_
    show Steps p.tables e below (T2.setTop (mkF m 17 #[.val (.ref w_DIGIT), .val (.int x), .val (.int (-2))] [(.int ((2 : Int32) - (1 : Int32)))])) _
    rw [(by decide : ((2 : Int32) - (1 : Int32)) = (1 : Int32))]
    show Steps p.tables e below (T2.setTop (mkF m 17 #[.val (.ref w_DIGIT), .val (.int x), .val (.int (-2))] [(.int 1)])) _
    refine XS.iconst X2.here hx rfl (hb hby d2_17) ?_
    show Steps p.tables e below (T2.setTop (mkF m 18 #[.val (.ref w_DIGIT), .val (.int x), .val (.int (-2))] [(.int 2), (.int 1)])) _
    refine iremM X2 hx rfl (hb hby d2_18) rfl (by decide) ?_
    show Steps p.tables e below (T2.setTop (mkF m 19 #[.val (.ref w_DIGIT), .val (.int x), .val (.int (-2))] [(.int ((1 : Int32) % (2 : Int32)))])) _
    rw [(by decide : ((1 : Int32) % (2 : Int32)) = (1 : Int32))]
    show Steps p.tables e below (T2.setTop (mkF m 19 #[.val (.ref w_DIGIT), .val (.int x), .val (.int (-2))] [(.int 1)])) _
    refine XS.iconst X2.here hx rfl (hb hby d2_19) ?_
    show Steps p.tables e below (T2.setTop (mkF m 20 #[.val (.ref w_DIGIT), .val (.int x), .val (.int (-2))] [(.int 1), (.int 1)])) _
    refine XS.icmpNo X2.here hx rfl (hb hby d2_20) rfl (teq (by decide : (1 : Int32) = (1 : Int32))).2 ?_
    show Steps p.tables e below (T2.setTop (mkF m 23 #[.val (.ref w_DIGIT), .val (.int x), .val (.int (-2))] [])) _
    refine XS.iconst X2.here hx rfl (hb hby d2_23) ?_
    show Steps p.tables e below (T2.setTop (mkF m 24 #[.val (.ref w_DIGIT), .val (.int x), .val (.int (-2))] [(.int 1)])) _
    refine XS.goto X2.here hx rfl (pc0 := 24) (pc' := 28) rfl (hb hby d2_24) (by decide) (by decide) ?_
    show Steps p.tables e below (T2.setTop (mkF m 28 #[.val (.ref w_DIGIT), .val (.int x), .val (.int (-2))] [(.int 1)])) _
    exact retN X2 hx (t := .boolean) Bd.returns (by simp) (hb hby d2_28) hr
  · show Q2_w_DIGIT_x_48_57_all_DIGIT Z w_DIGIT x r_DIGIT k_DIGIT h0 n0 _ T2.heap _
    rw [e2]
    exact ⟨(by rw [hret]), N2, rfl⟩
def Q4_r_DIGIT_0_2_57 (Z : State) (r_DIGIT : Addr) (k_DIGIT : ClassId) (h0 : Heap) (n0 : Nat) (v : Option Value) (h : Heap) (L : List Loc) : Prop := v = some (.int 1) ∧ Fr n0 L ∧ h = h0
set_option maxRecDepth 65536 in
set_option maxHeartbeats 40000000 in
theorem rm4_r_DIGIT_0_2_57 (l : Launch) (Z : State) (a0 : Array Value) (hw : ∀ d ∈ tables_1, d.before a0 Z = true) (ws : List Jvm.Cond) (r_DIGIT : Addr) (k_DIGIT : ClassId) (h0 : Heap) (n0 : Nat) (Z0 : n0 ≤ h0.size) (V_r_DIGIT : Arv Z h0 r_DIGIT k_DIGIT .int (2 : Int32) [(.int 48), (.int 57)] (.int (0 : Int32))) :
    MetFree l (⟨"java/util/Arrays", "binarySearch0", "([IIII)I"⟩ : MethodName) (head1 (Jvm.Cond.code (⟨"java/util/Arrays", "binarySearch0", "([IIII)I"⟩ : MethodName) jdk_65_method_59_code 8 (some .int) :: ws) ({ frames := 0, cells := 0, slots := 0, locals := 0 } : Room)) (fun a U => a = #[(.ref r_DIGIT), (.int 0), (.int 2), (.int 57)] ∧ Z.Warmed39 U.vm ∧ U.heap = h0) (fun _ _ _ _ _ => True) (fun _ U o U' => ∃ v L, o = .returned v ∧ Q4_r_DIGIT_0_2_57 Z r_DIGIT k_DIGIT h0 n0 v U'.heap L ∧ FrameEnd U o U' L ({ frames := 0, cells := 0, slots := 0, locals := 0 } : Room).cells ({ frames := 0, cells := 0, slots := 0, locals := 0 } : Room).slots) := by
  refine MetFree.of_bodySF (plainFor_of_name pn_4) hisR ?_
  intro p e s m args below meth c s₁ Bd hml0 hP hK
  obtain ⟨rfl, hZ, hh⟩ := hP
  have hx := Bd.exec
  have hby := Bd.bytes
  have hml : c.maxLocals = 8 := hml0
  have hown : s.vm.findClass "java/util/Arrays" = some m.cls := findClass_of_methodNamed Bd.named
  have hnm := (name_of_methodNamed Bd.named Bd.method).1
  have X0 : Stand p l e ({ frames := 0, cells := 0, slots := 0, locals := 0 } : Room) s m #[(.ref r_DIGIT), (.int 0), (.int 2), (.int 57)] below meth c s₁ [] 0 0 := Stand.of_body Bd
  have e0 : s₁.heap = h0 := by rw [← hh, Bd.state]; rfl
  have N0 := Fr.nil n0
  have pre0 : ∀ t, Steps p.tables e below (s₁.setTop (mkF m 0 #[.val (.ref r_DIGIT), .val (.int 0), .val (.int 2), .val (.int 57), .unset, .unset, .unset, .unset] [])) t → Steps p.tables e below (s₁.setTop (entryFrame m #[(.ref r_DIGIT), (.int 0), (.int 2), (.int 57)] 8)) t := fun t k => castTop (by first | (simp [entryFrame, mkF, argsToLocals, Value.category]; done) | rfl) k
  obtain ⟨fs, hr, hrun, hended, hW, hsame⟩ := X0.leave (v := some (.int 1)) (fun h => by rw [Bd.returns] at h; cases h)
  refine ⟨_, _, pre0 _ ?_, hrun, hended, _, _, rfl, ?_, ⟨_, rfl⟩, hW, hsame.mono (by decide) (by decide)⟩
  · show Steps p.tables e below (s₁.setTop (mkF m 0 #[.val (.ref r_DIGIT), .val (.int 0), .val (.int 2), .val (.int 57), .unset, .unset, .unset, .unset] [])) _
    refine XS.iloadN X0.here hx rfl (hb hby d4_0) rfl ?_
    show Steps p.tables e below (s₁.setTop (mkF m 1 #[.val (.ref r_DIGIT), .val (.int 0), .val (.int 2), .val (.int 57), .unset, .unset, .unset, .unset] [(.int 0)])) _
    refine XS.istore X0.here hx rfl (hb hby d4_1) rfl (l' := #[.val (.ref r_DIGIT), .val (.int 0), .val (.int 2), .val (.int 57), .val (.int 0), .unset, .unset, .unset]) rfl ?_
    show Steps p.tables e below (s₁.setTop (mkF m 3 #[.val (.ref r_DIGIT), .val (.int 0), .val (.int 2), .val (.int 57), .val (.int 0), .unset, .unset, .unset] [])) _
    refine XS.iloadN X0.here hx rfl (hb hby d4_3) rfl ?_
    show Steps p.tables e below (s₁.setTop (mkF m 4 #[.val (.ref r_DIGIT), .val (.int 0), .val (.int 2), .val (.int 57), .val (.int 0), .unset, .unset, .unset] [(.int 2)])) _
    refine XS.iconst X0.here hx rfl (hb hby d4_4) ?_
    show Steps p.tables e below (s₁.setTop (mkF m 5 #[.val (.ref r_DIGIT), .val (.int 0), .val (.int 2), .val (.int 57), .val (.int 0), .unset, .unset, .unset] [(.int 1), (.int 2)])) _
    refine XS.isub X0.here hx rfl (hb hby d4_5) rfl ?_
    show Steps p.tables e below (s₁.setTop (mkF m 6 #[.val (.ref r_DIGIT), .val (.int 0), .val (.int 2), .val (.int 57), .val (.int 0), .unset, .unset, .unset] [(.int ((2 : Int32) - (1 : Int32)))])) _
    rw [(by decide : ((2 : Int32) - (1 : Int32)) = (1 : Int32))]
    show Steps p.tables e below (s₁.setTop (mkF m 6 #[.val (.ref r_DIGIT), .val (.int 0), .val (.int 2), .val (.int 57), .val (.int 0), .unset, .unset, .unset] [(.int 1)])) _
    refine XS.istore X0.here hx rfl (hb hby d4_6) rfl (l' := #[.val (.ref r_DIGIT), .val (.int 0), .val (.int 2), .val (.int 57), .val (.int 0), .val (.int 1), .unset, .unset]) rfl ?_
    show Steps p.tables e below (s₁.setTop (mkF m 8 #[.val (.ref r_DIGIT), .val (.int 0), .val (.int 2), .val (.int 57), .val (.int 0), .val (.int 1), .unset, .unset] [])) _
    refine tnLu r_DIGIT (0 : Int32) (2 : Int32) (57 : Int32) (0 : Int32) (1 : Int32) (0 : Int32) k_DIGIT (2 : Int32) [(.int 48), (.int 57)] (.int (0 : Int32)) (48 : Int32) (1 : Int32) X0 hx hZ hby e0 (by decide) (by decide) V_r_DIGIT ⟨by decide, by decide⟩ rfl (by decide) (by decide) _ ?_
    show Steps p.tables e below (s₁.setTop (mkF m 8 #[.val (.ref r_DIGIT), .val (.int 0), .val (.int 2), .val (.int 57), .val (.int 1), .val (.int 1), .val (.int 0), .val (.int 48)] [])) _
    refine XS.iload X0.here hx rfl (hb hby d4_8) rfl ?_
    show Steps p.tables e below (s₁.setTop (mkF m 10 #[.val (.ref r_DIGIT), .val (.int 0), .val (.int 2), .val (.int 57), .val (.int 1), .val (.int 1), .val (.int 0), .val (.int 48)] [(.int 1)])) _
    refine XS.iload X0.here hx rfl (hb hby d4_10) rfl ?_
    show Steps p.tables e below (s₁.setTop (mkF m 12 #[.val (.ref r_DIGIT), .val (.int 0), .val (.int 2), .val (.int 57), .val (.int 1), .val (.int 1), .val (.int 0), .val (.int 48)] [(.int 1), (.int 1)])) _
    refine XS.icmpNo X0.here hx rfl (hb hby d4_12) rfl (flt (by decide : ¬ ((1 : Int32) < (1 : Int32)))).2.2.1 ?_
    show Steps p.tables e below (s₁.setTop (mkF m 15 #[.val (.ref r_DIGIT), .val (.int 0), .val (.int 2), .val (.int 57), .val (.int 1), .val (.int 1), .val (.int 0), .val (.int 48)] [])) _
    refine XS.iload X0.here hx rfl (hb hby d4_15) rfl ?_
    show Steps p.tables e below (s₁.setTop (mkF m 17 #[.val (.ref r_DIGIT), .val (.int 0), .val (.int 2), .val (.int 57), .val (.int 1), .val (.int 1), .val (.int 0), .val (.int 48)] [(.int 1)])) _
    refine XS.iload X0.here hx rfl (hb hby d4_17) rfl ?_
    show Steps p.tables e below (s₁.setTop (mkF m 19 #[.val (.ref r_DIGIT), .val (.int 0), .val (.int 2), .val (.int 57), .val (.int 1), .val (.int 1), .val (.int 0), .val (.int 48)] [(.int 1), (.int 1)])) _
    refine XS.iadd X0.here hx rfl (hb hby d4_19) rfl ?_
    show Steps p.tables e below (s₁.setTop (mkF m 20 #[.val (.ref r_DIGIT), .val (.int 0), .val (.int 2), .val (.int 57), .val (.int 1), .val (.int 1), .val (.int 0), .val (.int 48)] [(.int ((1 : Int32) + (1 : Int32)))])) _
    rw [(by decide : ((1 : Int32) + (1 : Int32)) = (2 : Int32))]
    show Steps p.tables e below (s₁.setTop (mkF m 20 #[.val (.ref r_DIGIT), .val (.int 0), .val (.int 2), .val (.int 57), .val (.int 1), .val (.int 1), .val (.int 0), .val (.int 48)] [(.int 2)])) _
    refine XS.iconst X0.here hx rfl (hb hby d4_20) ?_
    show Steps p.tables e below (s₁.setTop (mkF m 21 #[.val (.ref r_DIGIT), .val (.int 0), .val (.int 2), .val (.int 57), .val (.int 1), .val (.int 1), .val (.int 0), .val (.int 48)] [(.int 1), (.int 2)])) _
    refine XS.iushr X0.here hx rfl (hb hby d4_21) rfl ?_
    show Steps p.tables e below (s₁.setTop (mkF m 22 #[.val (.ref r_DIGIT), .val (.int 0), .val (.int 2), .val (.int 57), .val (.int 1), .val (.int 1), .val (.int 0), .val (.int 48)] [(.int (((2 : Int32).toUInt32 >>> ((1 : Int32) &&& 31).toUInt32).toInt32))])) _
    rw [(by decide : (((2 : Int32).toUInt32 >>> ((1 : Int32) &&& 31).toUInt32).toInt32) = (1 : Int32))]
    show Steps p.tables e below (s₁.setTop (mkF m 22 #[.val (.ref r_DIGIT), .val (.int 0), .val (.int 2), .val (.int 57), .val (.int 1), .val (.int 1), .val (.int 0), .val (.int 48)] [(.int 1)])) _
    refine XS.istore X0.here hx rfl (hb hby d4_22) rfl (l' := #[.val (.ref r_DIGIT), .val (.int 0), .val (.int 2), .val (.int 57), .val (.int 1), .val (.int 1), .val (.int 1), .val (.int 48)]) rfl ?_
    show Steps p.tables e below (s₁.setTop (mkF m 24 #[.val (.ref r_DIGIT), .val (.int 0), .val (.int 2), .val (.int 57), .val (.int 1), .val (.int 1), .val (.int 1), .val (.int 48)] [])) _
    refine XS.aloadN X0.here hx rfl (hb hby d4_24) rfl rfl ?_
    show Steps p.tables e below (s₁.setTop (mkF m 25 #[.val (.ref r_DIGIT), .val (.int 0), .val (.int 2), .val (.int 57), .val (.int 1), .val (.int 1), .val (.int 1), .val (.int 48)] [(.ref r_DIGIT)])) _
    refine XS.iload X0.here hx rfl (hb hby d4_25) rfl ?_
    show Steps p.tables e below (s₁.setTop (mkF m 27 #[.val (.ref r_DIGIT), .val (.int 0), .val (.int 2), .val (.int 57), .val (.int 1), .val (.int 1), .val (.int 1), .val (.int 48)] [(.int 1), (.ref r_DIGIT)])) _
    refine own_ldI X0 hx hZ e0 V_r_DIGIT (j := (1 : Int32)) ⟨by decide, by decide⟩ rfl (g := (mkF m 27 #[.val (.ref r_DIGIT), .val (.int 0), .val (.int 2), .val (.int 57), .val (.int 1), .val (.int 1), .val (.int 1), .val (.int 48)] [(.int 1), (.ref r_DIGIT)])) rfl rfl (hb hby d4_27) _ ?_
    show Steps p.tables e below (s₁.setTop (mkF m 28 #[.val (.ref r_DIGIT), .val (.int 0), .val (.int 2), .val (.int 57), .val (.int 1), .val (.int 1), .val (.int 1), .val (.int 48)] [(.int 57)])) _
    refine XS.istore X0.here hx rfl (hb hby d4_28) rfl (l' := #[.val (.ref r_DIGIT), .val (.int 0), .val (.int 2), .val (.int 57), .val (.int 1), .val (.int 1), .val (.int 1), .val (.int 57)]) rfl ?_
    show Steps p.tables e below (s₁.setTop (mkF m 30 #[.val (.ref r_DIGIT), .val (.int 0), .val (.int 2), .val (.int 57), .val (.int 1), .val (.int 1), .val (.int 1), .val (.int 57)] [])) _
    refine XS.iload X0.here hx rfl (hb hby d4_30) rfl ?_
    show Steps p.tables e below (s₁.setTop (mkF m 32 #[.val (.ref r_DIGIT), .val (.int 0), .val (.int 2), .val (.int 57), .val (.int 1), .val (.int 1), .val (.int 1), .val (.int 57)] [(.int 57)])) _
    refine XS.iloadN X0.here hx rfl (hb hby d4_32) rfl ?_
    show Steps p.tables e below (s₁.setTop (mkF m 33 #[.val (.ref r_DIGIT), .val (.int 0), .val (.int 2), .val (.int 57), .val (.int 1), .val (.int 1), .val (.int 1), .val (.int 57)] [(.int 57), (.int 57)])) _
    refine XS.icmpYes X0.here hx rfl (pc0 := 33) (pc' := 45) rfl (hb hby d4_33) rfl (flt (by decide : ¬ ((57 : Int32) < (57 : Int32)))).2.1 (by decide) (by decide) ?_
    show Steps p.tables e below (s₁.setTop (mkF m 45 #[.val (.ref r_DIGIT), .val (.int 0), .val (.int 2), .val (.int 57), .val (.int 1), .val (.int 1), .val (.int 1), .val (.int 57)] [])) _
    refine XS.iload X0.here hx rfl (hb hby d4_45) rfl ?_
    show Steps p.tables e below (s₁.setTop (mkF m 47 #[.val (.ref r_DIGIT), .val (.int 0), .val (.int 2), .val (.int 57), .val (.int 1), .val (.int 1), .val (.int 1), .val (.int 57)] [(.int 57)])) _
    refine XS.iloadN X0.here hx rfl (hb hby d4_47) rfl ?_
    show Steps p.tables e below (s₁.setTop (mkF m 48 #[.val (.ref r_DIGIT), .val (.int 0), .val (.int 2), .val (.int 57), .val (.int 1), .val (.int 1), .val (.int 1), .val (.int 57)] [(.int 57), (.int 57)])) _
    refine XS.icmpYes X0.here hx rfl (pc0 := 48) (pc' := 60) rfl (hb hby d4_48) rfl (flt (by decide : ¬ ((57 : Int32) < (57 : Int32)))).2.2.2 (by decide) (by decide) ?_
    show Steps p.tables e below (s₁.setTop (mkF m 60 #[.val (.ref r_DIGIT), .val (.int 0), .val (.int 2), .val (.int 57), .val (.int 1), .val (.int 1), .val (.int 1), .val (.int 57)] [])) _
    refine XS.iload X0.here hx rfl (hb hby d4_60) rfl ?_
    show Steps p.tables e below (s₁.setTop (mkF m 62 #[.val (.ref r_DIGIT), .val (.int 0), .val (.int 2), .val (.int 57), .val (.int 1), .val (.int 1), .val (.int 1), .val (.int 57)] [(.int 1)])) _
    exact retI X0 hx Bd.returns (hb hby d4_62) hr
  · show Q4_r_DIGIT_0_2_57 Z r_DIGIT k_DIGIT h0 n0 _ s₁.heap _
    rw [e0]
    exact ⟨rfl, N0, rfl⟩
def Q3_r_DIGIT_57 (Z : State) (r_DIGIT : Addr) (k_DIGIT : ClassId) (h0 : Heap) (n0 : Nat) (v : Option Value) (h : Heap) (L : List Loc) : Prop := v = some (.int 1) ∧ Fr n0 L ∧ h = h0
set_option maxRecDepth 65536 in
set_option maxHeartbeats 40000000 in
theorem rm3_r_DIGIT_57 (l : Launch) (Z : State) (a0 : Array Value) (hw : ∀ d ∈ tables_1, d.before a0 Z = true) (ws : List Jvm.Cond) (r_DIGIT : Addr) (k_DIGIT : ClassId) (h0 : Heap) (n0 : Nat) (Z0 : n0 ≤ h0.size) (V_r_DIGIT : Arv Z h0 r_DIGIT k_DIGIT .int (2 : Int32) [(.int 48), (.int 57)] (.int (0 : Int32))) :
    MetFree l (⟨"java/util/Arrays", "binarySearch", "([II)I"⟩ : MethodName) (head1 (Jvm.Cond.code (⟨"java/util/Arrays", "binarySearch", "([II)I"⟩ : MethodName) jdk_65_method_57_code 2 (some .int) :: ws) ({ frames := 1, cells := 0, slots := 0, locals := 19 } : Room)) (fun a U => a = #[(.ref r_DIGIT), (.int 57)] ∧ Z.Warmed39 U.vm ∧ U.heap = h0) (fun _ _ _ _ _ => True) (fun _ U o U' => ∃ v L, o = .returned v ∧ Q3_r_DIGIT_57 Z r_DIGIT k_DIGIT h0 n0 v U'.heap L ∧ FrameEnd U o U' L ({ frames := 1, cells := 0, slots := 0, locals := 19 } : Room).cells ({ frames := 1, cells := 0, slots := 0, locals := 19 } : Room).slots) := by
  refine MetFree.of_bodySF (plainFor_of_name pn_3) hisR ?_
  intro p e s m args below meth c s₁ Bd hml0 hP hK
  obtain ⟨rfl, hZ, hh⟩ := hP
  have hx := Bd.exec
  have hby := Bd.bytes
  have hml : c.maxLocals = 2 := hml0
  have hown : s.vm.findClass "java/util/Arrays" = some m.cls := findClass_of_methodNamed Bd.named
  have hnm := (name_of_methodNamed Bd.named Bd.method).1
  have X0 : Stand p l e ({ frames := 1, cells := 0, slots := 0, locals := 19 } : Room) s m #[(.ref r_DIGIT), (.int 57)] below meth c s₁ [] 0 0 := Stand.of_body Bd
  have e0 : s₁.heap = h0 := by rw [← hh, Bd.state]; rfl
  have N0 := Fr.nil n0
  have pre0 : ∀ t, Steps p.tables e below (s₁.setTop (mkF m 0 #[.val (.ref r_DIGIT), .val (.int 57)] [])) t → Steps p.tables e below (s₁.setTop (entryFrame m #[(.ref r_DIGIT), (.int 57)] 2)) t := fun t k => castTop (by first | (simp [entryFrame, mkF, argsToLocals, Value.category]; done) | rfl) k
  obtain ⟨_, _, ⟨T1, L1, k1, n1⟩, -, X1, ⟨Lc1, hQ1, l1, y1, z1⟩, st1⟩ := Jvm.LawKit.callS X0 hx (y := (⟨"java/util/Arrays", "binarySearch0", "([IIII)I"⟩ : MethodName)) hown (mvT hZ (hw _ (List.mem_of_getElem? (i := 19) rfl))) (mvT hZ (hw _ (List.mem_of_getElem? (i := 20) rfl))) (mvT hZ (hw _ (List.mem_of_getElem? (i := 17) rfl))) (mvT hZ (hw _ (List.mem_of_getElem? (i := 21) rfl))) (by decide) (backOf (W := 0) (rm4_r_DIGIT_0_2_57 l Z a0 hw [] r_DIGIT k_DIGIT h0 n0 Z0 V_r_DIGIT) hZ (hw _ (List.mem_of_getElem? (i := 21) rfl)) (hw _ (List.mem_of_getElem? (i := 17) rfl)) (by decide) (by decide)) (g := (mkF m 5 #[.val (.ref r_DIGIT), .val (.int 57)] [(.int 57), (.int 2), (.int 0), (.ref r_DIGIT)])) rfl (by rw [hml]; rfl) (argsL := [(.ref r_DIGIT), (.int 0), (.int 2), (.int 57)]) (rest := []) (lenOf pd___IIII_I rfl) rfl (by show 2 * 0 + _ ≤ _; exact Nat.le_of_eq rfl) (hb hby d3_5) (fun _ _ => ⟨rfl, e0, (by decide : 0 + 0 ≤ _), (by decide : 0 + 0 ≤ _)⟩)
  dsimp only [Pt.U, Pt.locs, Pt.cells, Pt.slots] at X1 l1 y1 z1 st1 hQ1
  subst l1 y1 z1
  obtain ⟨rfl, N1q, e1⟩ := hQ1
  have N1 := Fr.app N0 N1q
  obtain ⟨fs, hr, hrun, hended, hW, hsame⟩ := X1.leave (v := some (.int 1)) (fun h => by rw [Bd.returns] at h; cases h)
  refine ⟨_, _, pre0 _ ?_, hrun, hended, _, _, rfl, ?_, ⟨_, rfl⟩, hW, hsame.mono (by decide) (by decide)⟩
  · show Steps p.tables e below (s₁.setTop (mkF m 0 #[.val (.ref r_DIGIT), .val (.int 57)] [])) _
    refine XS.aloadN X0.here hx rfl (hb hby d3_0) rfl rfl ?_
    show Steps p.tables e below (s₁.setTop (mkF m 1 #[.val (.ref r_DIGIT), .val (.int 57)] [(.ref r_DIGIT)])) _
    refine XS.iconst X0.here hx rfl (hb hby d3_1) ?_
    show Steps p.tables e below (s₁.setTop (mkF m 2 #[.val (.ref r_DIGIT), .val (.int 57)] [(.int 0), (.ref r_DIGIT)])) _
    refine XS.aloadN X0.here hx rfl (hb hby d3_2) rfl rfl ?_
    show Steps p.tables e below (s₁.setTop (mkF m 3 #[.val (.ref r_DIGIT), .val (.int 57)] [(.ref r_DIGIT), (.int 0), (.ref r_DIGIT)])) _
    refine own_lenz X0 hx hZ e0 V_r_DIGIT (g := (mkF m 3 #[.val (.ref r_DIGIT), .val (.int 57)] [(.ref r_DIGIT), (.int 0), (.ref r_DIGIT)])) rfl rfl (hb hby d3_3) _ ?_
    show Steps p.tables e below (s₁.setTop (mkF m 4 #[.val (.ref r_DIGIT), .val (.int 57)] [(.int 2), (.int 0), (.ref r_DIGIT)])) _
    refine XS.iloadN X0.here hx rfl (hb hby d3_4) rfl ?_
    show Steps p.tables e below (s₁.setTop (mkF m 5 #[.val (.ref r_DIGIT), .val (.int 57)] [(.int 57), (.int 2), (.int 0), (.ref r_DIGIT)])) _
    refine st1 _ ?_
    show Steps p.tables e below (T1.setTop (mkF m 8 #[.val (.ref r_DIGIT), .val (.int 57)] [(.int 1)])) _
    exact retI X1 hx Bd.returns (hb hby d3_8) hr
  · show Q3_r_DIGIT_57 Z r_DIGIT k_DIGIT h0 n0 _ T1.heap _
    rw [e1]
    exact ⟨rfl, N1, rfl⟩
def Q2_w_DIGIT_57_all_DIGIT (Z : State) (w_DIGIT : Addr) (r_DIGIT : Addr) (k_DIGIT : ClassId) (h0 : Heap) (n0 : Nat) (v : Option Value) (h : Heap) (L : List Loc) : Prop := v = some (.int (own_d (57 : Int32))) ∧ Fr n0 L ∧ h = h0
set_option maxRecDepth 65536 in
set_option maxHeartbeats 40000000 in
theorem rm2_w_DIGIT_57_all_DIGIT (l : Launch) (Z : State) (a0 : Array Value) (hw : ∀ d ∈ tables_1, d.before a0 Z = true) (ws : List Jvm.Cond) (w_DIGIT : Addr) (r_DIGIT : Addr) (k_DIGIT : ClassId) (h0 : Heap) (n0 : Nat) (Z0 : n0 ≤ h0.size) (F_ranges_w_DIGIT : Fld Z h0 w_DIGIT "com/example/termwell/termwell/core/text/CodePointSet" "ranges" "[I" (.ref r_DIGIT)) (V_r_DIGIT : Arv Z h0 r_DIGIT k_DIGIT .int (2 : Int32) [(.int 48), (.int 57)] (.int (0 : Int32))) (hret : (own_d (57 : Int32)) = (1 : Int32)) :
    MetFree l (⟨"com/example/termwell/termwell/core/text/CodePointSet", "contains", "(I)Z"⟩ : MethodName) (head1 (Jvm.Cond.code (⟨"com/example/termwell/termwell/core/text/CodePointSet", "contains", "(I)Z"⟩ : MethodName) prog_19_method_4_code 3 (some .boolean) :: ws) ({ frames := 2, cells := 0, slots := 0, locals := 32 } : Room)) (fun a U => a = #[(.ref w_DIGIT), (.int 57)] ∧ Z.Warmed39 U.vm ∧ U.heap = h0) (fun _ _ _ _ _ => True) (fun _ U o U' => ∃ v L, o = .returned v ∧ Q2_w_DIGIT_57_all_DIGIT Z w_DIGIT r_DIGIT k_DIGIT h0 n0 v U'.heap L ∧ FrameEnd U o U' L ({ frames := 2, cells := 0, slots := 0, locals := 32 } : Room).cells ({ frames := 2, cells := 0, slots := 0, locals := 32 } : Room).slots) := by
  refine MetFree.of_bodySF (plainFor_of_name pn_2) hisR ?_
  intro p e s m args below meth c s₁ Bd hml0 hP hK
  obtain ⟨rfl, hZ, hh⟩ := hP
  have hx := Bd.exec
  have hby := Bd.bytes
  have hml : c.maxLocals = 3 := hml0
  have hown : s.vm.findClass "com/example/termwell/termwell/core/text/CodePointSet" = some m.cls := findClass_of_methodNamed Bd.named
  have hnm := (name_of_methodNamed Bd.named Bd.method).1
  have X0 : Stand p l e ({ frames := 2, cells := 0, slots := 0, locals := 32 } : Room) s m #[(.ref w_DIGIT), (.int 57)] below meth c s₁ [] 0 0 := Stand.of_body Bd
  have e0 : s₁.heap = h0 := by rw [← hh, Bd.state]; rfl
  have N0 := Fr.nil n0
  have pre0 : ∀ t, Steps p.tables e below (s₁.setTop (mkF m 0 #[.val (.ref w_DIGIT), .val (.int 57), .unset] [])) t → Steps p.tables e below (s₁.setTop (entryFrame m #[(.ref w_DIGIT), (.int 57)] 3)) t := fun t k => castTop (by first | (simp [entryFrame, mkF, argsToLocals, Value.category]; done) | rfl) k
  obtain ⟨T1, X1, e1, st1⟩ := getF X0 hx hZ hown (host := "") (Or.inl (hw _ (List.mem_of_getElem? (i := 13) rfl))) Via.refl e0 F_ranges_w_DIGIT (g := (mkF m 1 #[.val (.ref w_DIGIT), .val (.int 57), .unset] [(.ref w_DIGIT)])) rfl rfl (hb hby d2_1)
  obtain ⟨_, _, ⟨T2, L2, k2, n2⟩, -, X2, ⟨Lc2, hQ2, l2, y2, z2⟩, st2⟩ := Jvm.LawKit.callS X1 hx (y := (⟨"java/util/Arrays", "binarySearch", "([II)I"⟩ : MethodName)) hown (mvT hZ (hw _ (List.mem_of_getElem? (i := 15) rfl))) (mvT hZ (hw _ (List.mem_of_getElem? (i := 16) rfl))) (mvT hZ (hw _ (List.mem_of_getElem? (i := 17) rfl))) (mvT hZ (hw _ (List.mem_of_getElem? (i := 18) rfl))) (by decide) (backOf (W := 0) (rm3_r_DIGIT_57 l Z a0 hw [] r_DIGIT k_DIGIT h0 n0 Z0 V_r_DIGIT) hZ (hw _ (List.mem_of_getElem? (i := 18) rfl)) (hw _ (List.mem_of_getElem? (i := 17) rfl)) (by decide) (by decide)) (g := (mkF m 5 #[.val (.ref w_DIGIT), .val (.int 57), .unset] [(.int 57), (.ref r_DIGIT)])) rfl (by rw [hml]; rfl) (argsL := [(.ref r_DIGIT), (.int 57)]) (rest := []) (lenOf pd___II_I rfl) rfl (by show 2 * 0 + _ ≤ _; exact Nat.le_of_eq rfl) (hb hby d2_5) (fun _ _ => ⟨rfl, e1, (by decide : 0 + 0 ≤ _), (by decide : 0 + 0 ≤ _)⟩)
  dsimp only [Pt.U, Pt.locs, Pt.cells, Pt.slots] at X2 l2 y2 z2 st2 hQ2
  subst l2 y2 z2
  obtain ⟨rfl, N2q, e2⟩ := hQ2
  have N2 := Fr.app N0 N2q
  obtain ⟨fs, hr, hrun, hended, hW, hsame⟩ := X2.leave (v := some (.int 1)) (fun h => by rw [Bd.returns] at h; cases h)
  refine ⟨_, _, pre0 _ ?_, hrun, hended, _, _, rfl, ?_, ⟨_, rfl⟩, hW, hsame.mono (by decide) (by decide)⟩
  · show Steps p.tables e below (s₁.setTop (mkF m 0 #[.val (.ref w_DIGIT), .val (.int 57), .unset] [])) _
    refine XS.aloadN X0.here hx rfl (hb hby d2_0) rfl rfl ?_
    show Steps p.tables e below (s₁.setTop (mkF m 1 #[.val (.ref w_DIGIT), .val (.int 57), .unset] [(.ref w_DIGIT)])) _
    refine st1 _ ?_
    show Steps p.tables e below (T1.setTop (mkF m 4 #[.val (.ref w_DIGIT), .val (.int 57), .unset] [(.ref r_DIGIT)])) _
    refine XS.iloadN X1.here hx rfl (hb hby d2_4) rfl ?_
    show Steps p.tables e below (T1.setTop (mkF m 5 #[.val (.ref w_DIGIT), .val (.int 57), .unset] [(.int 57), (.ref r_DIGIT)])) _
    refine st2 _ ?_
    show Steps p.tables e below (T2.setTop (mkF m 8 #[.val (.ref w_DIGIT), .val (.int 57), .unset] [(.int 1)])) _
    refine XS.istoreN X2.here hx rfl (hb hby d2_8) rfl (l' := #[.val (.ref w_DIGIT), .val (.int 57), .val (.int 1)]) rfl ?_
    show Steps p.tables e below (T2.setTop (mkF m 9 #[.val (.ref w_DIGIT), .val (.int 57), .val (.int 1)] [])) _
    refine XS.iloadN X2.here hx rfl (hb hby d2_9) rfl ?_
    show Steps p.tables e below (T2.setTop (mkF m 10 #[.val (.ref w_DIGIT), .val (.int 57), .val (.int 1)] [(.int 1)])) _
    refine XS.ifYes X2.here hx rfl (pc0 := 10) (pc' := 23) rfl (hb hby d2_10) rfl ((if0 _ _).trans (flt (by decide : ¬ ((1 : Int32) < (0 : Int32)))).2.1) (by decide) (by decide) ?_
    show Steps p.tables e below (T2.setTop (mkF m 23 #[.val (.ref w_DIGIT), .val (.int 57), .val (.int 1)] [])) _
    refine XS.iconst X2.here hx rfl (hb hby d2_23) ?_
    show Steps p.tables e below (T2.setTop (mkF m 24 #[.val (.ref w_DIGIT), .val (.int 57), .val (.int 1)] [(.int 1)])) _
    refine XS.goto X2.here hx rfl (pc0 := 24) (pc' := 28) rfl (hb hby d2_24) (by decide) (by decide) ?_
    show Steps p.tables e below (T2.setTop (mkF m 28 #[.val (.ref w_DIGIT), .val (.int 57), .val (.int 1)] [(.int 1)])) _
    exact retN X2 hx (t := .boolean) Bd.returns (by simp) (hb hby d2_28) hr
  · show Q2_w_DIGIT_57_all_DIGIT Z w_DIGIT r_DIGIT k_DIGIT h0 n0 _ T2.heap _
    rw [e2]
    exact ⟨(by rw [hret]), N2, rfl⟩
def Q4_r_DIGIT_0_2_x_57_None (Z : State) (r_DIGIT : Addr) (x : Int32) (k_DIGIT : ClassId) (h0 : Heap) (n0 : Nat) (v : Option Value) (h : Heap) (L : List Loc) : Prop := v = some (.int (-3)) ∧ Fr n0 L ∧ h = h0
set_option maxRecDepth 65536 in
set_option maxHeartbeats 40000000 in
theorem rm4_r_DIGIT_0_2_x_57_None (l : Launch) (Z : State) (a0 : Array Value) (hw : ∀ d ∈ tables_1, d.before a0 Z = true) (ws : List Jvm.Cond) (r_DIGIT : Addr) (x : Int32) (k_DIGIT : ClassId) (h0 : Heap) (n0 : Nat) (Z0 : n0 ≤ h0.size) (hlo_x : (57 : Int32) < x) (V_r_DIGIT : Arv Z h0 r_DIGIT k_DIGIT .int (2 : Int32) [(.int 48), (.int 57)] (.int (0 : Int32))) :
    MetFree l (⟨"java/util/Arrays", "binarySearch0", "([IIII)I"⟩ : MethodName) (head1 (Jvm.Cond.code (⟨"java/util/Arrays", "binarySearch0", "([IIII)I"⟩ : MethodName) jdk_65_method_59_code 8 (some .int) :: ws) ({ frames := 0, cells := 0, slots := 0, locals := 0 } : Room)) (fun a U => a = #[(.ref r_DIGIT), (.int 0), (.int 2), (.int x)] ∧ Z.Warmed39 U.vm ∧ U.heap = h0) (fun _ _ _ _ _ => True) (fun _ U o U' => ∃ v L, o = .returned v ∧ Q4_r_DIGIT_0_2_x_57_None Z r_DIGIT x k_DIGIT h0 n0 v U'.heap L ∧ FrameEnd U o U' L ({ frames := 0, cells := 0, slots := 0, locals := 0 } : Room).cells ({ frames := 0, cells := 0, slots := 0, locals := 0 } : Room).slots) := by
  refine MetFree.of_bodySF (plainFor_of_name pn_4) hisR ?_
  intro p e s m args below meth c s₁ Bd hml0 hP hK
  obtain ⟨rfl, hZ, hh⟩ := hP
  have hx := Bd.exec
  have hby := Bd.bytes
  have hml : c.maxLocals = 8 := hml0
  have hown : s.vm.findClass "java/util/Arrays" = some m.cls := findClass_of_methodNamed Bd.named
  have hnm := (name_of_methodNamed Bd.named Bd.method).1
  have X0 : Stand p l e ({ frames := 0, cells := 0, slots := 0, locals := 0 } : Room) s m #[(.ref r_DIGIT), (.int 0), (.int 2), (.int x)] below meth c s₁ [] 0 0 := Stand.of_body Bd
  have e0 : s₁.heap = h0 := by rw [← hh, Bd.state]; rfl
  have N0 := Fr.nil n0
  have pre0 : ∀ t, Steps p.tables e below (s₁.setTop (mkF m 0 #[.val (.ref r_DIGIT), .val (.int 0), .val (.int 2), .val (.int x), .unset, .unset, .unset, .unset] [])) t → Steps p.tables e below (s₁.setTop (entryFrame m #[(.ref r_DIGIT), (.int 0), (.int 2), (.int x)] 8)) t := fun t k => castTop (by first | (simp [entryFrame, mkF, argsToLocals, Value.category]; done) | rfl) k
  obtain ⟨fs, hr, hrun, hended, hW, hsame⟩ := X0.leave (v := some (.int (-3))) (fun h => by rw [Bd.returns] at h; cases h)
  refine ⟨_, _, pre0 _ ?_, hrun, hended, _, _, rfl, ?_, ⟨_, rfl⟩, hW, hsame.mono (by decide) (by decide)⟩
  · show Steps p.tables e below (s₁.setTop (mkF m 0 #[.val (.ref r_DIGIT), .val (.int 0), .val (.int 2), .val (.int x), .unset, .unset, .unset, .unset] [])) _
    refine XS.iloadN X0.here hx rfl (hb hby d4_0) rfl ?_
    show Steps p.tables e below (s₁.setTop (mkF m 1 #[.val (.ref r_DIGIT), .val (.int 0), .val (.int 2), .val (.int x), .unset, .unset, .unset, .unset] [(.int 0)])) _
    refine XS.istore X0.here hx rfl (hb hby d4_1) rfl (l' := #[.val (.ref r_DIGIT), .val (.int 0), .val (.int 2), .val (.int x), .val (.int 0), .unset, .unset, .unset]) rfl ?_
    show Steps p.tables e below (s₁.setTop (mkF m 3 #[.val (.ref r_DIGIT), .val (.int 0), .val (.int 2), .val (.int x), .val (.int 0), .unset, .unset, .unset] [])) _
    refine XS.iloadN X0.here hx rfl (hb hby d4_3) rfl ?_
    show Steps p.tables e below (s₁.setTop (mkF m 4 #[.val (.ref r_DIGIT), .val (.int 0), .val (.int 2), .val (.int x), .val (.int 0), .unset, .unset, .unset] [(.int 2)])) _
    refine XS.iconst X0.here hx rfl (hb hby d4_4) ?_
    show Steps p.tables e below (s₁.setTop (mkF m 5 #[.val (.ref r_DIGIT), .val (.int 0), .val (.int 2), .val (.int x), .val (.int 0), .unset, .unset, .unset] [(.int 1), (.int 2)])) _
    refine XS.isub X0.here hx rfl (hb hby d4_5) rfl ?_
    show Steps p.tables e below (s₁.setTop (mkF m 6 #[.val (.ref r_DIGIT), .val (.int 0), .val (.int 2), .val (.int x), .val (.int 0), .unset, .unset, .unset] [(.int ((2 : Int32) - (1 : Int32)))])) _
    rw [(by decide : ((2 : Int32) - (1 : Int32)) = (1 : Int32))]
    show Steps p.tables e below (s₁.setTop (mkF m 6 #[.val (.ref r_DIGIT), .val (.int 0), .val (.int 2), .val (.int x), .val (.int 0), .unset, .unset, .unset] [(.int 1)])) _
    refine XS.istore X0.here hx rfl (hb hby d4_6) rfl (l' := #[.val (.ref r_DIGIT), .val (.int 0), .val (.int 2), .val (.int x), .val (.int 0), .val (.int 1), .unset, .unset]) rfl ?_
    show Steps p.tables e below (s₁.setTop (mkF m 8 #[.val (.ref r_DIGIT), .val (.int 0), .val (.int 2), .val (.int x), .val (.int 0), .val (.int 1), .unset, .unset] [])) _
    refine tnLu r_DIGIT (0 : Int32) (2 : Int32) x (0 : Int32) (1 : Int32) (0 : Int32) k_DIGIT (2 : Int32) [(.int 48), (.int 57)] (.int (0 : Int32)) (48 : Int32) (1 : Int32) X0 hx hZ hby e0 (by decide) (by decide) V_r_DIGIT ⟨by decide, by decide⟩ rfl (own_gt hlo_x (by decide)) (by decide) _ ?_
    show Steps p.tables e below (s₁.setTop (mkF m 8 #[.val (.ref r_DIGIT), .val (.int 0), .val (.int 2), .val (.int x), .val (.int 1), .val (.int 1), .val (.int 0), .val (.int 48)] [])) _
    refine tnLv r_DIGIT (0 : Int32) (2 : Int32) x (1 : Int32) (1 : Int32) (0 : Int32) (48 : Int32) (1 : Int32) k_DIGIT (2 : Int32) [(.int 48), (.int 57)] (.int (0 : Int32)) (57 : Int32) (2 : Int32) X0 hx hZ hby e0 (by decide) (by decide) V_r_DIGIT ⟨by decide, by decide⟩ rfl (own_gt hlo_x (by decide)) (by decide) _ ?_
    show Steps p.tables e below (s₁.setTop (mkF m 8 #[.val (.ref r_DIGIT), .val (.int 0), .val (.int 2), .val (.int x), .val (.int 2), .val (.int 1), .val (.int 1), .val (.int 57)] [])) _
    refine XS.iload X0.here hx rfl (hb hby d4_8) rfl ?_
    show Steps p.tables e below (s₁.setTop (mkF m 10 #[.val (.ref r_DIGIT), .val (.int 0), .val (.int 2), .val (.int x), .val (.int 2), .val (.int 1), .val (.int 1), .val (.int 57)] [(.int 2)])) _
    refine XS.iload X0.here hx rfl (hb hby d4_10) rfl ?_
    show Steps p.tables e below (s₁.setTop (mkF m 12 #[.val (.ref r_DIGIT), .val (.int 0), .val (.int 2), .val (.int x), .val (.int 2), .val (.int 1), .val (.int 1), .val (.int 57)] [(.int 1), (.int 2)])) _
    refine XS.icmpYes X0.here hx rfl (pc0 := 12) (pc' := 66) rfl (hb hby d4_12) rfl (tlt (by decide : (1 : Int32) < (2 : Int32))).2.2.1 (by decide) (by decide) ?_
    show Steps p.tables e below (s₁.setTop (mkF m 66 #[.val (.ref r_DIGIT), .val (.int 0), .val (.int 2), .val (.int x), .val (.int 2), .val (.int 1), .val (.int 1), .val (.int 57)] [])) _
    refine XS.iload X0.here hx rfl (hb hby d4_66) rfl ?_
    show Steps p.tables e below (s₁.setTop (mkF m 68 #[.val (.ref r_DIGIT), .val (.int 0), .val (.int 2), .val (.int x), .val (.int 2), .val (.int 1), .val (.int 1), .val (.int 57)] [(.int 2)])) _
    refine XS.iconst X0.here hx rfl (hb hby d4_68) ?_
    show Steps p.tables e below (s₁.setTop (mkF m 69 #[.val (.ref r_DIGIT), .val (.int 0), .val (.int 2), .val (.int x), .val (.int 2), .val (.int 1), .val (.int 1), .val (.int 57)] [(.int 1), (.int 2)])) _
    refine XS.iadd X0.here hx rfl (hb hby d4_69) rfl ?_
    show Steps p.tables e below (s₁.setTop (mkF m 70 #[.val (.ref r_DIGIT), .val (.int 0), .val (.int 2), .val (.int x), .val (.int 2), .val (.int 1), .val (.int 1), .val (.int 57)] [(.int ((2 : Int32) + (1 : Int32)))])) _
    rw [(by decide : ((2 : Int32) + (1 : Int32)) = (3 : Int32))]
    show Steps p.tables e below (s₁.setTop (mkF m 70 #[.val (.ref r_DIGIT), .val (.int 0), .val (.int 2), .val (.int x), .val (.int 2), .val (.int 1), .val (.int 1), .val (.int 57)] [(.int 3)])) _
    refine XS.ineg X0.here hx rfl (hb hby d4_70) rfl ?_
    show Steps p.tables e below (s₁.setTop (mkF m 71 #[.val (.ref r_DIGIT), .val (.int 0), .val (.int 2), .val (.int x), .val (.int 2), .val (.int 1), .val (.int 1), .val (.int 57)] [(.int (-(3 : Int32)))])) _
    rw [(by decide : (-(3 : Int32)) = (-3 : Int32))]
    show Steps p.tables e below (s₁.setTop (mkF m 71 #[.val (.ref r_DIGIT), .val (.int 0), .val (.int 2), .val (.int x), .val (.int 2), .val (.int 1), .val (.int 1), .val (.int 57)] [(.int (-3))])) _
    exact retI X0 hx Bd.returns (hb hby d4_71) hr
  · show Q4_r_DIGIT_0_2_x_57_None Z r_DIGIT x k_DIGIT h0 n0 _ s₁.heap _
    rw [e0]
    exact ⟨rfl, N0, rfl⟩
def Q3_r_DIGIT_x_57_None (Z : State) (r_DIGIT : Addr) (x : Int32) (k_DIGIT : ClassId) (h0 : Heap) (n0 : Nat) (v : Option Value) (h : Heap) (L : List Loc) : Prop := v = some (.int (-3)) ∧ Fr n0 L ∧ h = h0
set_option maxRecDepth 65536 in
set_option maxHeartbeats 40000000 in
theorem rm3_r_DIGIT_x_57_None (l : Launch) (Z : State) (a0 : Array Value) (hw : ∀ d ∈ tables_1, d.before a0 Z = true) (ws : List Jvm.Cond) (r_DIGIT : Addr) (x : Int32) (k_DIGIT : ClassId) (h0 : Heap) (n0 : Nat) (Z0 : n0 ≤ h0.size) (V_r_DIGIT : Arv Z h0 r_DIGIT k_DIGIT .int (2 : Int32) [(.int 48), (.int 57)] (.int (0 : Int32))) (hlo_x : (57 : Int32) < x) :
    MetFree l (⟨"java/util/Arrays", "binarySearch", "([II)I"⟩ : MethodName) (head1 (Jvm.Cond.code (⟨"java/util/Arrays", "binarySearch", "([II)I"⟩ : MethodName) jdk_65_method_57_code 2 (some .int) :: ws) ({ frames := 1, cells := 0, slots := 0, locals := 19 } : Room)) (fun a U => a = #[(.ref r_DIGIT), (.int x)] ∧ Z.Warmed39 U.vm ∧ U.heap = h0) (fun _ _ _ _ _ => True) (fun _ U o U' => ∃ v L, o = .returned v ∧ Q3_r_DIGIT_x_57_None Z r_DIGIT x k_DIGIT h0 n0 v U'.heap L ∧ FrameEnd U o U' L ({ frames := 1, cells := 0, slots := 0, locals := 19 } : Room).cells ({ frames := 1, cells := 0, slots := 0, locals := 19 } : Room).slots) := by
  refine MetFree.of_bodySF (plainFor_of_name pn_3) hisR ?_
  intro p e s m args below meth c s₁ Bd hml0 hP hK
  obtain ⟨rfl, hZ, hh⟩ := hP
  have hx := Bd.exec
  have hby := Bd.bytes
  have hml : c.maxLocals = 2 := hml0
  have hown : s.vm.findClass "java/util/Arrays" = some m.cls := findClass_of_methodNamed Bd.named
  have hnm := (name_of_methodNamed Bd.named Bd.method).1
  have X0 : Stand p l e ({ frames := 1, cells := 0, slots := 0, locals := 19 } : Room) s m #[(.ref r_DIGIT), (.int x)] below meth c s₁ [] 0 0 := Stand.of_body Bd
  have e0 : s₁.heap = h0 := by rw [← hh, Bd.state]; rfl
  have N0 := Fr.nil n0
  have pre0 : ∀ t, Steps p.tables e below (s₁.setTop (mkF m 0 #[.val (.ref r_DIGIT), .val (.int x)] [])) t → Steps p.tables e below (s₁.setTop (entryFrame m #[(.ref r_DIGIT), (.int x)] 2)) t := fun t k => castTop (by first | (simp [entryFrame, mkF, argsToLocals, Value.category]; done) | rfl) k
  obtain ⟨_, _, ⟨T1, L1, k1, n1⟩, -, X1, ⟨Lc1, hQ1, l1, y1, z1⟩, st1⟩ := Jvm.LawKit.callS X0 hx (y := (⟨"java/util/Arrays", "binarySearch0", "([IIII)I"⟩ : MethodName)) hown (mvT hZ (hw _ (List.mem_of_getElem? (i := 19) rfl))) (mvT hZ (hw _ (List.mem_of_getElem? (i := 20) rfl))) (mvT hZ (hw _ (List.mem_of_getElem? (i := 17) rfl))) (mvT hZ (hw _ (List.mem_of_getElem? (i := 21) rfl))) (by decide) (backOf (W := 0) (rm4_r_DIGIT_0_2_x_57_None l Z a0 hw [] r_DIGIT x k_DIGIT h0 n0 Z0 hlo_x V_r_DIGIT) hZ (hw _ (List.mem_of_getElem? (i := 21) rfl)) (hw _ (List.mem_of_getElem? (i := 17) rfl)) (by decide) (by decide)) (g := (mkF m 5 #[.val (.ref r_DIGIT), .val (.int x)] [(.int x), (.int 2), (.int 0), (.ref r_DIGIT)])) rfl (by rw [hml]; rfl) (argsL := [(.ref r_DIGIT), (.int 0), (.int 2), (.int x)]) (rest := []) (lenOf pd___IIII_I rfl) rfl (by show 2 * 0 + _ ≤ _; exact Nat.le_of_eq rfl) (hb hby d3_5) (fun _ _ => ⟨rfl, e0, (by decide : 0 + 0 ≤ _), (by decide : 0 + 0 ≤ _)⟩)
  dsimp only [Pt.U, Pt.locs, Pt.cells, Pt.slots] at X1 l1 y1 z1 st1 hQ1
  subst l1 y1 z1
  obtain ⟨rfl, N1q, e1⟩ := hQ1
  have N1 := Fr.app N0 N1q
  obtain ⟨fs, hr, hrun, hended, hW, hsame⟩ := X1.leave (v := some (.int (-3))) (fun h => by rw [Bd.returns] at h; cases h)
  refine ⟨_, _, pre0 _ ?_, hrun, hended, _, _, rfl, ?_, ⟨_, rfl⟩, hW, hsame.mono (by decide) (by decide)⟩
  · show Steps p.tables e below (s₁.setTop (mkF m 0 #[.val (.ref r_DIGIT), .val (.int x)] [])) _
    refine XS.aloadN X0.here hx rfl (hb hby d3_0) rfl rfl ?_
    show Steps p.tables e below (s₁.setTop (mkF m 1 #[.val (.ref r_DIGIT), .val (.int x)] [(.ref r_DIGIT)])) _
    refine XS.iconst X0.here hx rfl (hb hby d3_1) ?_
    show Steps p.tables e below (s₁.setTop (mkF m 2 #[.val (.ref r_DIGIT), .val (.int x)] [(.int 0), (.ref r_DIGIT)])) _
    refine XS.aloadN X0.here hx rfl (hb hby d3_2) rfl rfl ?_
    show Steps p.tables e below (s₁.setTop (mkF m 3 #[.val (.ref r_DIGIT), .val (.int x)] [(.ref r_DIGIT), (.int 0), (.ref r_DIGIT)])) _
    refine own_lenz X0 hx hZ e0 V_r_DIGIT (g := (mkF m 3 #[.val (.ref r_DIGIT), .val (.int x)] [(.ref r_DIGIT), (.int 0), (.ref r_DIGIT)])) rfl rfl (hb hby d3_3) _ ?_
    show Steps p.tables e below (s₁.setTop (mkF m 4 #[.val (.ref r_DIGIT), .val (.int x)] [(.int 2), (.int 0), (.ref r_DIGIT)])) _
    refine XS.iloadN X0.here hx rfl (hb hby d3_4) rfl ?_
    show Steps p.tables e below (s₁.setTop (mkF m 5 #[.val (.ref r_DIGIT), .val (.int x)] [(.int x), (.int 2), (.int 0), (.ref r_DIGIT)])) _
    refine st1 _ ?_
    show Steps p.tables e below (T1.setTop (mkF m 8 #[.val (.ref r_DIGIT), .val (.int x)] [(.int (-3))])) _
    exact retI X1 hx Bd.returns (hb hby d3_8) hr
  · show Q3_r_DIGIT_x_57_None Z r_DIGIT x k_DIGIT h0 n0 _ T1.heap _
    rw [e1]
    exact ⟨rfl, N1, rfl⟩
def Q2_w_DIGIT_x_57_None_all_DIGIT (Z : State) (w_DIGIT : Addr) (x : Int32) (r_DIGIT : Addr) (k_DIGIT : ClassId) (h0 : Heap) (n0 : Nat) (v : Option Value) (h : Heap) (L : List Loc) : Prop := v = some (.int (own_d x)) ∧ Fr n0 L ∧ h = h0
set_option maxRecDepth 65536 in
set_option maxHeartbeats 40000000 in
theorem rm2_w_DIGIT_x_57_None_all_DIGIT (l : Launch) (Z : State) (a0 : Array Value) (hw : ∀ d ∈ tables_1, d.before a0 Z = true) (ws : List Jvm.Cond) (w_DIGIT : Addr) (x : Int32) (r_DIGIT : Addr) (k_DIGIT : ClassId) (h0 : Heap) (n0 : Nat) (Z0 : n0 ≤ h0.size) (F_ranges_w_DIGIT : Fld Z h0 w_DIGIT "com/example/termwell/termwell/core/text/CodePointSet" "ranges" "[I" (.ref r_DIGIT)) (V_r_DIGIT : Arv Z h0 r_DIGIT k_DIGIT .int (2 : Int32) [(.int 48), (.int 57)] (.int (0 : Int32))) (hlo_x : (57 : Int32) < x) (hret : (own_d x) = (0 : Int32)) :
    MetFree l (⟨"com/example/termwell/termwell/core/text/CodePointSet", "contains", "(I)Z"⟩ : MethodName) (head1 (Jvm.Cond.code (⟨"com/example/termwell/termwell/core/text/CodePointSet", "contains", "(I)Z"⟩ : MethodName) prog_19_method_4_code 3 (some .boolean) :: ws) ({ frames := 2, cells := 0, slots := 0, locals := 32 } : Room)) (fun a U => a = #[(.ref w_DIGIT), (.int x)] ∧ Z.Warmed39 U.vm ∧ U.heap = h0) (fun _ _ _ _ _ => True) (fun _ U o U' => ∃ v L, o = .returned v ∧ Q2_w_DIGIT_x_57_None_all_DIGIT Z w_DIGIT x r_DIGIT k_DIGIT h0 n0 v U'.heap L ∧ FrameEnd U o U' L ({ frames := 2, cells := 0, slots := 0, locals := 32 } : Room).cells ({ frames := 2, cells := 0, slots := 0, locals := 32 } : Room).slots) := by
  refine MetFree.of_bodySF (plainFor_of_name pn_2) hisR ?_
  intro p e s m args below meth c s₁ Bd hml0 hP hK
  obtain ⟨rfl, hZ, hh⟩ := hP
  have hx := Bd.exec
  have hby := Bd.bytes
  have hml : c.maxLocals = 3 := hml0
  have hown : s.vm.findClass "com/example/termwell/termwell/core/text/CodePointSet" = some m.cls := findClass_of_methodNamed Bd.named
  have hnm := (name_of_methodNamed Bd.named Bd.method).1
  have X0 : Stand p l e ({ frames := 2, cells := 0, slots := 0, locals := 32 } : Room) s m #[(.ref w_DIGIT), (.int x)] below meth c s₁ [] 0 0 := Stand.of_body Bd
  have e0 : s₁.heap = h0 := by rw [← hh, Bd.state]; rfl
  have N0 := Fr.nil n0
  have pre0 : ∀ t, Steps p.tables e below (s₁.setTop (mkF m 0 #[.val (.ref w_DIGIT), .val (.int x), .unset] [])) t → Steps p.tables e below (s₁.setTop (entryFrame m #[(.ref w_DIGIT), (.int x)] 3)) t := fun t k => castTop (by first | (simp [entryFrame, mkF, argsToLocals, Value.category]; done) | rfl) k
  obtain ⟨T1, X1, e1, st1⟩ := getF X0 hx hZ hown (host := "") (Or.inl (hw _ (List.mem_of_getElem? (i := 13) rfl))) Via.refl e0 F_ranges_w_DIGIT (g := (mkF m 1 #[.val (.ref w_DIGIT), .val (.int x), .unset] [(.ref w_DIGIT)])) rfl rfl (hb hby d2_1)
  obtain ⟨_, _, ⟨T2, L2, k2, n2⟩, -, X2, ⟨Lc2, hQ2, l2, y2, z2⟩, st2⟩ := Jvm.LawKit.callS X1 hx (y := (⟨"java/util/Arrays", "binarySearch", "([II)I"⟩ : MethodName)) hown (mvT hZ (hw _ (List.mem_of_getElem? (i := 15) rfl))) (mvT hZ (hw _ (List.mem_of_getElem? (i := 16) rfl))) (mvT hZ (hw _ (List.mem_of_getElem? (i := 17) rfl))) (mvT hZ (hw _ (List.mem_of_getElem? (i := 18) rfl))) (by decide) (backOf (W := 0) (rm3_r_DIGIT_x_57_None l Z a0 hw [] r_DIGIT x k_DIGIT h0 n0 Z0 V_r_DIGIT hlo_x) hZ (hw _ (List.mem_of_getElem? (i := 18) rfl)) (hw _ (List.mem_of_getElem? (i := 17) rfl)) (by decide) (by decide)) (g := (mkF m 5 #[.val (.ref w_DIGIT), .val (.int x), .unset] [(.int x), (.ref r_DIGIT)])) rfl (by rw [hml]; rfl) (argsL := [(.ref r_DIGIT), (.int x)]) (rest := []) (lenOf pd___II_I rfl) rfl (by show 2 * 0 + _ ≤ _; exact Nat.le_of_eq rfl) (hb hby d2_5) (fun _ _ => ⟨rfl, e1, (by decide : 0 + 0 ≤ _), (by decide : 0 + 0 ≤ _)⟩)
  dsimp only [Pt.U, Pt.locs, Pt.cells, Pt.slots] at X2 l2 y2 z2 st2 hQ2
  subst l2 y2 z2
  obtain ⟨rfl, N2q, e2⟩ := hQ2
  have N2 := Fr.app N0 N2q
  obtain ⟨fs, hr, hrun, hended, hW, hsame⟩ := X2.leave (v := some (.int 0)) (fun h => by rw [Bd.returns] at h; cases h)
  refine ⟨_, _, pre0 _ ?_, hrun, hended, _, _, rfl, ?_, ⟨_, rfl⟩, hW, hsame.mono (by decide) (by decide)⟩
  · show Steps p.tables e below (s₁.setTop (mkF m 0 #[.val (.ref w_DIGIT), .val (.int x), .unset] [])) _
    refine XS.aloadN X0.here hx rfl (hb hby d2_0) rfl rfl ?_
    show Steps p.tables e below (s₁.setTop (mkF m 1 #[.val (.ref w_DIGIT), .val (.int x), .unset] [(.ref w_DIGIT)])) _
    refine st1 _ ?_
    show Steps p.tables e below (T1.setTop (mkF m 4 #[.val (.ref w_DIGIT), .val (.int x), .unset] [(.ref r_DIGIT)])) _
    refine XS.iloadN X1.here hx rfl (hb hby d2_4) rfl ?_
    show Steps p.tables e below (T1.setTop (mkF m 5 #[.val (.ref w_DIGIT), .val (.int x), .unset] [(.int x), (.ref r_DIGIT)])) _
    refine st2 _ ?_
    show Steps p.tables e below (T2.setTop (mkF m 8 #[.val (.ref w_DIGIT), .val (.int x), .unset] [(.int (-3))])) _
    refine XS.istoreN X2.here hx rfl (hb hby d2_8) rfl (l' := #[.val (.ref w_DIGIT), .val (.int x), .val (.int (-3))]) rfl ?_
    show Steps p.tables e below (T2.setTop (mkF m 9 #[.val (.ref w_DIGIT), .val (.int x), .val (.int (-3))] [])) _
    refine XS.iloadN X2.here hx rfl (hb hby d2_9) rfl ?_
    show Steps p.tables e below (T2.setTop (mkF m 10 #[.val (.ref w_DIGIT), .val (.int x), .val (.int (-3))] [(.int (-3))])) _
    refine XS.ifNo X2.here hx rfl (hb hby d2_10) rfl ((if0 _ _).trans (tlt (by decide : (-3 : Int32) < (0 : Int32))).2.1) ?_
    show Steps p.tables e below (T2.setTop (mkF m 13 #[.val (.ref w_DIGIT), .val (.int x), .val (.int (-3))] [])) _
    refine XS.iloadN X2.here hx rfl (hb hby d2_13) rfl ?_
    show Steps p.tables e below (T2.setTop (mkF m 14 #[.val (.ref w_DIGIT), .val (.int x), .val (.int (-3))] [(.int (-3))])) _
    refine XS.ineg X2.here hx rfl (hb hby d2_14) rfl ?_
    show Steps p.tables e below (T2.setTop (mkF m 15 #[.val (.ref w_DIGIT), .val (.int x), .val (.int (-3))] [(.int (-(-3 : Int32)))])) _
    rw [(by decide : (-(-3 : Int32)) = (3 : Int32))]
    show Steps p.tables e below (T2.setTop (mkF m 15 #[.val (.ref w_DIGIT), .val (.int x), .val (.int (-3))] [(.int 3)])) _
    refine XS.iconst X2.here hx rfl (hb hby d2_15) ?_
    show Steps p.tables e below (T2.setTop (mkF m 16 #[.val (.ref w_DIGIT), .val (.int x), .val (.int (-3))] [(.int 1), (.int 3)])) _
    refine XS.isub X2.here hx rfl (hb hby d2_16) rfl ?_
    show Steps p.tables e below (T2.setTop (mkF m 17 #[.val (.ref w_DIGIT), .val (.int x), .val (.int (-3))] [(.int ((3 : Int32) - (1 : Int32)))])) _
    rw [(by decide : ((3 : Int32) - (1 : Int32)) = (2 : Int32))]
    show Steps p.tables e below (T2.setTop (mkF m 17 #[.val (.ref w_DIGIT), .val (.int x), .val (.int (-3))] [(.int 2)])) _
    refine XS.iconst X2.here hx rfl (hb hby d2_17) ?_
    show Steps p.tables e below (T2.setTop (mkF m 18 #[.val (.ref w_DIGIT), .val (.int x), .val (.int (-3))] [(.int 2), (.int 2)])) _
    refine iremM X2 hx rfl (hb hby d2_18) rfl (by decide) ?_
    show Steps p.tables e below (T2.setTop (mkF m 19 #[.val (.ref w_DIGIT), .val (.int x), .val (.int (-3))] [(.int ((2 : Int32) % (2 : Int32)))])) _
    rw [(by decide : ((2 : Int32) % (2 : Int32)) = (0 : Int32))]
    show Steps p.tables e below (T2.setTop (mkF m 19 #[.val (.ref w_DIGIT), .val (.int x), .val (.int (-3))] [(.int 0)])) _
    refine XS.iconst X2.here hx rfl (hb hby d2_19) ?_
    show Steps p.tables e below (T2.setTop (mkF m 20 #[.val (.ref w_DIGIT), .val (.int x), .val (.int (-3))] [(.int 1), (.int 0)])) _
    refine XS.icmpYes X2.here hx rfl (pc0 := 20) (pc' := 27) rfl (hb hby d2_20) rfl (feq (by decide : ¬ ((0 : Int32) = (1 : Int32)))).2 (by decide) (by decide) ?_
    show Steps p.tables e below (T2.setTop (mkF m 27 #[.val (.ref w_DIGIT), .val (.int x), .val (.int (-3))] [])) _
    refine XS.iconst X2.here hx rfl (hb hby d2_27) ?_
    show Steps p.tables e below (T2.setTop (mkF m 28 #[.val (.ref w_DIGIT), .val (.int x), .val (.int (-3))] [(.int 0)])) _
    exact retN X2 hx (t := .boolean) Bd.returns (by simp) (hb hby d2_28) hr
  · show Q2_w_DIGIT_x_57_None_all_DIGIT Z w_DIGIT x r_DIGIT k_DIGIT h0 n0 _ T2.heap _
    rw [e2]
    exact ⟨(by rw [hret]), N2, rfl⟩
def Q2_all_DIGIT (Z : State) (x : Int32) (w_DIGIT : Addr) (r_DIGIT : Addr) (k_DIGIT : ClassId) (h0 : Heap) (n0 : Nat) (v : Option Value) (h : Heap) (L : List Loc) : Prop := v = some (.int (own_d x)) ∧ Fr n0 L ∧ h = h0
set_option maxRecDepth 65536 in
set_option maxHeartbeats 40000000 in
theorem rm2_all_DIGIT (l : Launch) (Z : State) (a0 : Array Value) (hw : ∀ d ∈ tables_1, d.before a0 Z = true) (ws : List Jvm.Cond) (x : Int32) (w_DIGIT : Addr) (r_DIGIT : Addr) (k_DIGIT : ClassId) (h0 : Heap) (n0 : Nat) (Z0 : n0 ≤ h0.size) (F_ranges_w_DIGIT : Fld Z h0 w_DIGIT "com/example/termwell/termwell/core/text/CodePointSet" "ranges" "[I" (.ref r_DIGIT)) (V_r_DIGIT : Arv Z h0 r_DIGIT k_DIGIT .int (2 : Int32) [(.int 48), (.int 57)] (.int (0 : Int32))) :
    MetFree l (⟨"com/example/termwell/termwell/core/text/CodePointSet", "contains", "(I)Z"⟩ : MethodName) (head1 (Jvm.Cond.code (⟨"com/example/termwell/termwell/core/text/CodePointSet", "contains", "(I)Z"⟩ : MethodName) prog_19_method_4_code 3 (some .boolean) :: ws) ({ frames := 2, cells := 0, slots := 0, locals := 32 } : Room)) (fun a U => a = #[(.ref w_DIGIT), (.int x)] ∧ Z.Warmed39 U.vm ∧ U.heap = h0) (fun _ _ _ _ _ => True) (fun _ U o U' => ∃ v L, o = .returned v ∧ Q2_all_DIGIT Z x w_DIGIT r_DIGIT k_DIGIT h0 n0 v U'.heap L ∧ FrameEnd U o U' L ({ frames := 2, cells := 0, slots := 0, locals := 32 } : Room).cells ({ frames := 2, cells := 0, slots := 0, locals := 32 } : Room).slots) := by
  rcases (by omega : (x.toInt < 48) ∨ (x.toInt = 48) ∨ (48 < x.toInt ∧ x.toInt < 57) ∨ (x.toInt = 57) ∨ (57 < x.toInt)) with h | h | h | h | h
  · exact rm2_w_DIGIT_x_None_48_all_DIGIT l Z a0 hw ws w_DIGIT x r_DIGIT k_DIGIT h0 n0 Z0 F_ranges_w_DIGIT V_r_DIGIT (own_ilt (by decide) h) (by unfold own_d; (repeat' split) <;> first | rfl | (exfalso; omega))
  · obtain rfl : x = (48 : Int32) := Int32.toInt_inj.mp (h.trans (by decide))
    exact rm2_w_DIGIT_48_all_DIGIT l Z a0 hw ws w_DIGIT r_DIGIT k_DIGIT h0 n0 Z0 F_ranges_w_DIGIT V_r_DIGIT (by decide)
  · exact rm2_w_DIGIT_x_48_57_all_DIGIT l Z a0 hw ws w_DIGIT x r_DIGIT k_DIGIT h0 n0 Z0 F_ranges_w_DIGIT V_r_DIGIT (own_igt (by decide) h.1) (own_ilt (by decide) h.2) (by unfold own_d; (repeat' split) <;> first | rfl | (exfalso; omega))
  · obtain rfl : x = (57 : Int32) := Int32.toInt_inj.mp (h.trans (by decide))
    exact rm2_w_DIGIT_57_all_DIGIT l Z a0 hw ws w_DIGIT r_DIGIT k_DIGIT h0 n0 Z0 F_ranges_w_DIGIT V_r_DIGIT (by decide)
  · exact rm2_w_DIGIT_x_57_None_all_DIGIT l Z a0 hw ws w_DIGIT x r_DIGIT k_DIGIT h0 n0 Z0 F_ranges_w_DIGIT V_r_DIGIT (own_igt (by decide) h) (by unfold own_d; (repeat' split) <;> first | rfl | (exfalso; omega))
def Q5_0_x_None_48_all_DIGIT (Z : State) (x : Int32) (h0 : Heap) (n0 : Nat) (v : Option Value) (h : Heap) (L : List Loc) : Prop := v = some (.int (own_d x)) ∧ Fr n0 L ∧ h = h0
set_option maxRecDepth 65536 in
set_option maxHeartbeats 40000000 in
theorem rm5_0_x_None_48_all_DIGIT (l : Launch) (Z : State) (a0 : Array Value) (hw : ∀ d ∈ tables_1, d.before a0 Z = true) (ws : List Jvm.Cond) (x : Int32) (h0 : Heap) (n0 : Nat) (Z0 : n0 ≤ h0.size) (hhi_x : x < (48 : Int32)) (hret : (own_d x) = (0 : Int32)) :
    MetFree l (⟨"com/example/termwell/termwell/core/text/CharClassesPerlPinLaw", "expected", "(II)Z"⟩ : MethodName) (head1 (Jvm.Cond.code (⟨"com/example/termwell/termwell/core/text/CharClassesPerlPinLaw", "expected", "(II)Z"⟩ : MethodName) method_2_code 2 (some .boolean) :: ws) ({ frames := 0, cells := 0, slots := 0, locals := 0 } : Room)) (fun a U => a = #[(.int 0), (.int x)] ∧ Z.Warmed39 U.vm ∧ U.heap = h0) (fun _ _ _ _ _ => True) (fun _ U o U' => ∃ v L, o = .returned v ∧ Q5_0_x_None_48_all_DIGIT Z x h0 n0 v U'.heap L ∧ FrameEnd U o U' L ({ frames := 0, cells := 0, slots := 0, locals := 0 } : Room).cells ({ frames := 0, cells := 0, slots := 0, locals := 0 } : Room).slots) := by
  refine MetFree.of_bodySF (plainFor_of_name pn_5) hisR ?_
  intro p e s m args below meth c s₁ Bd hml0 hP hK
  obtain ⟨rfl, hZ, hh⟩ := hP
  have hx := Bd.exec
  have hby := Bd.bytes
  have hml : c.maxLocals = 2 := hml0
  have hown : s.vm.findClass "com/example/termwell/termwell/core/text/CharClassesPerlPinLaw" = some m.cls := findClass_of_methodNamed Bd.named
  have hnm := (name_of_methodNamed Bd.named Bd.method).1
  have X0 : Stand p l e ({ frames := 0, cells := 0, slots := 0, locals := 0 } : Room) s m #[(.int 0), (.int x)] below meth c s₁ [] 0 0 := Stand.of_body Bd
  have e0 : s₁.heap = h0 := by rw [← hh, Bd.state]; rfl
  have N0 := Fr.nil n0
  have pre0 : ∀ t, Steps p.tables e below (s₁.setTop (mkF m 0 #[.val (.int 0), .val (.int x)] [])) t → Steps p.tables e below (s₁.setTop (entryFrame m #[(.int 0), (.int x)] 2)) t := fun t k => castTop (by first | (simp [entryFrame, mkF, argsToLocals, Value.category]; done) | rfl) k
  obtain ⟨fs, hr, hrun, hended, hW, hsame⟩ := X0.leave (v := some (.int 0)) (fun h => by rw [Bd.returns] at h; cases h)
  refine ⟨_, _, pre0 _ ?_, hrun, hended, _, _, rfl, ?_, ⟨_, rfl⟩, hW, hsame.mono (by decide) (by decide)⟩
  · show Steps p.tables e below (s₁.setTop (mkF m 0 #[.val (.int 0), .val (.int x)] [])) _
    refine XS.iloadN X0.here hx rfl (hb hby d5_0) rfl ?_
    show Steps p.tables e below (s₁.setTop (mkF m 1 #[.val (.int 0), .val (.int x)] [(.int 0)])) _
    refine XS.ifNo X0.here hx rfl (hb hby d5_1) rfl ((if0 _ _).trans (teq (by decide : (0 : Int32) = (0 : Int32))).2) ?_
    show Steps p.tables e below (s₁.setTop (mkF m 4 #[.val (.int 0), .val (.int x)] [])) _
    refine XS.iloadN X0.here hx rfl (hb hby d5_4) rfl ?_
    show Steps p.tables e below (s₁.setTop (mkF m 5 #[.val (.int 0), .val (.int x)] [(.int x)])) _
    refine XS.bipush X0.here hx rfl (hb hby d5_5) ?_
    show Steps p.tables e below (s₁.setTop (mkF m 7 #[.val (.int 0), .val (.int x)] [(.int 48), (.int x)])) _
    refine XS.icmpYes X0.here hx rfl (pc0 := 7) (pc' := 20) rfl (hb hby d5_7) rfl (tlt (own_lt hhi_x (by decide) : x < (48 : Int32))).1 (by decide) (by decide) ?_
    show Steps p.tables e below (s₁.setTop (mkF m 20 #[.val (.int 0), .val (.int x)] [])) _
    refine XS.iconst X0.here hx rfl (hb hby d5_20) ?_
    show Steps p.tables e below (s₁.setTop (mkF m 21 #[.val (.int 0), .val (.int x)] [(.int 0)])) _
    exact retN X0 hx (t := .boolean) Bd.returns (by simp) (hb hby d5_21) hr
  · show Q5_0_x_None_48_all_DIGIT Z x h0 n0 _ s₁.heap _
    rw [e0]
    exact ⟨(by rw [hret]), N0, rfl⟩
def Q5_0_x_47_58_all_DIGIT (Z : State) (x : Int32) (h0 : Heap) (n0 : Nat) (v : Option Value) (h : Heap) (L : List Loc) : Prop := v = some (.int (own_d x)) ∧ Fr n0 L ∧ h = h0
set_option maxRecDepth 65536 in
set_option maxHeartbeats 40000000 in
theorem rm5_0_x_47_58_all_DIGIT (l : Launch) (Z : State) (a0 : Array Value) (hw : ∀ d ∈ tables_1, d.before a0 Z = true) (ws : List Jvm.Cond) (x : Int32) (h0 : Heap) (n0 : Nat) (Z0 : n0 ≤ h0.size) (hlo_x : (47 : Int32) < x) (hhi_x : x < (58 : Int32)) (hret : (own_d x) = (1 : Int32)) :
    MetFree l (⟨"com/example/termwell/termwell/core/text/CharClassesPerlPinLaw", "expected", "(II)Z"⟩ : MethodName) (head1 (Jvm.Cond.code (⟨"com/example/termwell/termwell/core/text/CharClassesPerlPinLaw", "expected", "(II)Z"⟩ : MethodName) method_2_code 2 (some .boolean) :: ws) ({ frames := 0, cells := 0, slots := 0, locals := 0 } : Room)) (fun a U => a = #[(.int 0), (.int x)] ∧ Z.Warmed39 U.vm ∧ U.heap = h0) (fun _ _ _ _ _ => True) (fun _ U o U' => ∃ v L, o = .returned v ∧ Q5_0_x_47_58_all_DIGIT Z x h0 n0 v U'.heap L ∧ FrameEnd U o U' L ({ frames := 0, cells := 0, slots := 0, locals := 0 } : Room).cells ({ frames := 0, cells := 0, slots := 0, locals := 0 } : Room).slots) := by
  refine MetFree.of_bodySF (plainFor_of_name pn_5) hisR ?_
  intro p e s m args below meth c s₁ Bd hml0 hP hK
  obtain ⟨rfl, hZ, hh⟩ := hP
  have hx := Bd.exec
  have hby := Bd.bytes
  have hml : c.maxLocals = 2 := hml0
  have hown : s.vm.findClass "com/example/termwell/termwell/core/text/CharClassesPerlPinLaw" = some m.cls := findClass_of_methodNamed Bd.named
  have hnm := (name_of_methodNamed Bd.named Bd.method).1
  have X0 : Stand p l e ({ frames := 0, cells := 0, slots := 0, locals := 0 } : Room) s m #[(.int 0), (.int x)] below meth c s₁ [] 0 0 := Stand.of_body Bd
  have e0 : s₁.heap = h0 := by rw [← hh, Bd.state]; rfl
  have N0 := Fr.nil n0
  have pre0 : ∀ t, Steps p.tables e below (s₁.setTop (mkF m 0 #[.val (.int 0), .val (.int x)] [])) t → Steps p.tables e below (s₁.setTop (entryFrame m #[(.int 0), (.int x)] 2)) t := fun t k => castTop (by first | (simp [entryFrame, mkF, argsToLocals, Value.category]; done) | rfl) k
  obtain ⟨fs, hr, hrun, hended, hW, hsame⟩ := X0.leave (v := some (.int 1)) (fun h => by rw [Bd.returns] at h; cases h)
  refine ⟨_, _, pre0 _ ?_, hrun, hended, _, _, rfl, ?_, ⟨_, rfl⟩, hW, hsame.mono (by decide) (by decide)⟩
  · show Steps p.tables e below (s₁.setTop (mkF m 0 #[.val (.int 0), .val (.int x)] [])) _
    refine XS.iloadN X0.here hx rfl (hb hby d5_0) rfl ?_
    show Steps p.tables e below (s₁.setTop (mkF m 1 #[.val (.int 0), .val (.int x)] [(.int 0)])) _
    refine XS.ifNo X0.here hx rfl (hb hby d5_1) rfl ((if0 _ _).trans (teq (by decide : (0 : Int32) = (0 : Int32))).2) ?_
    show Steps p.tables e below (s₁.setTop (mkF m 4 #[.val (.int 0), .val (.int x)] [])) _
    refine XS.iloadN X0.here hx rfl (hb hby d5_4) rfl ?_
    show Steps p.tables e below (s₁.setTop (mkF m 5 #[.val (.int 0), .val (.int x)] [(.int x)])) _
    refine XS.bipush X0.here hx rfl (hb hby d5_5) ?_
    show Steps p.tables e below (s₁.setTop (mkF m 7 #[.val (.int 0), .val (.int x)] [(.int 48), (.int x)])) _
    refine XS.icmpNo X0.here hx rfl (hb hby d5_7) rfl (flt (own_nlt hlo_x (by decide) : ¬ (x < (48 : Int32)))).1 ?_
    show Steps p.tables e below (s₁.setTop (mkF m 10 #[.val (.int 0), .val (.int x)] [])) _
    refine XS.iloadN X0.here hx rfl (hb hby d5_10) rfl ?_
    show Steps p.tables e below (s₁.setTop (mkF m 11 #[.val (.int 0), .val (.int x)] [(.int x)])) _
    refine XS.bipush X0.here hx rfl (hb hby d5_11) ?_
    show Steps p.tables e below (s₁.setTop (mkF m 13 #[.val (.int 0), .val (.int x)] [(.int 57), (.int x)])) _
    refine XS.icmpNo X0.here hx rfl (hb hby d5_13) rfl (flt (own_ngt hhi_x (by decide) : ¬ ((57 : Int32) < x))).2.2.1 ?_
    show Steps p.tables e below (s₁.setTop (mkF m 16 #[.val (.int 0), .val (.int x)] [])) _
    refine XS.iconst X0.here hx rfl (hb hby d5_16) ?_
    show Steps p.tables e below (s₁.setTop (mkF m 17 #[.val (.int 0), .val (.int x)] [(.int 1)])) _
    refine XS.goto X0.here hx rfl (pc0 := 17) (pc' := 21) rfl (hb hby d5_17) (by decide) (by decide) ?_
    show Steps p.tables e below (s₁.setTop (mkF m 21 #[.val (.int 0), .val (.int x)] [(.int 1)])) _
    exact retN X0 hx (t := .boolean) Bd.returns (by simp) (hb hby d5_21) hr
  · show Q5_0_x_47_58_all_DIGIT Z x h0 n0 _ s₁.heap _
    rw [e0]
    exact ⟨(by rw [hret]), N0, rfl⟩
def Q5_0_x_57_None_all_DIGIT (Z : State) (x : Int32) (h0 : Heap) (n0 : Nat) (v : Option Value) (h : Heap) (L : List Loc) : Prop := v = some (.int (own_d x)) ∧ Fr n0 L ∧ h = h0
set_option maxRecDepth 65536 in
set_option maxHeartbeats 40000000 in
theorem rm5_0_x_57_None_all_DIGIT (l : Launch) (Z : State) (a0 : Array Value) (hw : ∀ d ∈ tables_1, d.before a0 Z = true) (ws : List Jvm.Cond) (x : Int32) (h0 : Heap) (n0 : Nat) (Z0 : n0 ≤ h0.size) (hlo_x : (57 : Int32) < x) (hret : (own_d x) = (0 : Int32)) :
    MetFree l (⟨"com/example/termwell/termwell/core/text/CharClassesPerlPinLaw", "expected", "(II)Z"⟩ : MethodName) (head1 (Jvm.Cond.code (⟨"com/example/termwell/termwell/core/text/CharClassesPerlPinLaw", "expected", "(II)Z"⟩ : MethodName) method_2_code 2 (some .boolean) :: ws) ({ frames := 0, cells := 0, slots := 0, locals := 0 } : Room)) (fun a U => a = #[(.int 0), (.int x)] ∧ Z.Warmed39 U.vm ∧ U.heap = h0) (fun _ _ _ _ _ => True) (fun _ U o U' => ∃ v L, o = .returned v ∧ Q5_0_x_57_None_all_DIGIT Z x h0 n0 v U'.heap L ∧ FrameEnd U o U' L ({ frames := 0, cells := 0, slots := 0, locals := 0 } : Room).cells ({ frames := 0, cells := 0, slots := 0, locals := 0 } : Room).slots) := by
  refine MetFree.of_bodySF (plainFor_of_name pn_5) hisR ?_
  intro p e s m args below meth c s₁ Bd hml0 hP hK
  obtain ⟨rfl, hZ, hh⟩ := hP
  have hx := Bd.exec
  have hby := Bd.bytes
  have hml : c.maxLocals = 2 := hml0
  have hown : s.vm.findClass "com/example/termwell/termwell/core/text/CharClassesPerlPinLaw" = some m.cls := findClass_of_methodNamed Bd.named
  have hnm := (name_of_methodNamed Bd.named Bd.method).1
  have X0 : Stand p l e ({ frames := 0, cells := 0, slots := 0, locals := 0 } : Room) s m #[(.int 0), (.int x)] below meth c s₁ [] 0 0 := Stand.of_body Bd
  have e0 : s₁.heap = h0 := by rw [← hh, Bd.state]; rfl
  have N0 := Fr.nil n0
  have pre0 : ∀ t, Steps p.tables e below (s₁.setTop (mkF m 0 #[.val (.int 0), .val (.int x)] [])) t → Steps p.tables e below (s₁.setTop (entryFrame m #[(.int 0), (.int x)] 2)) t := fun t k => castTop (by first | (simp [entryFrame, mkF, argsToLocals, Value.category]; done) | rfl) k
  obtain ⟨fs, hr, hrun, hended, hW, hsame⟩ := X0.leave (v := some (.int 0)) (fun h => by rw [Bd.returns] at h; cases h)
  refine ⟨_, _, pre0 _ ?_, hrun, hended, _, _, rfl, ?_, ⟨_, rfl⟩, hW, hsame.mono (by decide) (by decide)⟩
  · show Steps p.tables e below (s₁.setTop (mkF m 0 #[.val (.int 0), .val (.int x)] [])) _
    refine XS.iloadN X0.here hx rfl (hb hby d5_0) rfl ?_
    show Steps p.tables e below (s₁.setTop (mkF m 1 #[.val (.int 0), .val (.int x)] [(.int 0)])) _
    refine XS.ifNo X0.here hx rfl (hb hby d5_1) rfl ((if0 _ _).trans (teq (by decide : (0 : Int32) = (0 : Int32))).2) ?_
    show Steps p.tables e below (s₁.setTop (mkF m 4 #[.val (.int 0), .val (.int x)] [])) _
    refine XS.iloadN X0.here hx rfl (hb hby d5_4) rfl ?_
    show Steps p.tables e below (s₁.setTop (mkF m 5 #[.val (.int 0), .val (.int x)] [(.int x)])) _
    refine XS.bipush X0.here hx rfl (hb hby d5_5) ?_
    show Steps p.tables e below (s₁.setTop (mkF m 7 #[.val (.int 0), .val (.int x)] [(.int 48), (.int x)])) _
    refine XS.icmpNo X0.here hx rfl (hb hby d5_7) rfl (flt (own_nlt hlo_x (by decide) : ¬ (x < (48 : Int32)))).1 ?_
    show Steps p.tables e below (s₁.setTop (mkF m 10 #[.val (.int 0), .val (.int x)] [])) _
    refine XS.iloadN X0.here hx rfl (hb hby d5_10) rfl ?_
    show Steps p.tables e below (s₁.setTop (mkF m 11 #[.val (.int 0), .val (.int x)] [(.int x)])) _
    refine XS.bipush X0.here hx rfl (hb hby d5_11) ?_
    show Steps p.tables e below (s₁.setTop (mkF m 13 #[.val (.int 0), .val (.int x)] [(.int 57), (.int x)])) _
    refine XS.icmpYes X0.here hx rfl (pc0 := 13) (pc' := 20) rfl (hb hby d5_13) rfl (tlt (own_gt hlo_x (by decide) : (57 : Int32) < x)).2.2.1 (by decide) (by decide) ?_
    show Steps p.tables e below (s₁.setTop (mkF m 20 #[.val (.int 0), .val (.int x)] [])) _
    refine XS.iconst X0.here hx rfl (hb hby d5_20) ?_
    show Steps p.tables e below (s₁.setTop (mkF m 21 #[.val (.int 0), .val (.int x)] [(.int 0)])) _
    exact retN X0 hx (t := .boolean) Bd.returns (by simp) (hb hby d5_21) hr
  · show Q5_0_x_57_None_all_DIGIT Z x h0 n0 _ s₁.heap _
    rw [e0]
    exact ⟨(by rw [hret]), N0, rfl⟩
def Q5_all_DIGIT (Z : State) (x : Int32) (h0 : Heap) (n0 : Nat) (v : Option Value) (h : Heap) (L : List Loc) : Prop := v = some (.int (own_d x)) ∧ Fr n0 L ∧ h = h0
set_option maxRecDepth 65536 in
set_option maxHeartbeats 40000000 in
theorem rm5_all_DIGIT (l : Launch) (Z : State) (a0 : Array Value) (hw : ∀ d ∈ tables_1, d.before a0 Z = true) (ws : List Jvm.Cond) (x : Int32) (h0 : Heap) (n0 : Nat) (Z0 : n0 ≤ h0.size) :
    MetFree l (⟨"com/example/termwell/termwell/core/text/CharClassesPerlPinLaw", "expected", "(II)Z"⟩ : MethodName) (head1 (Jvm.Cond.code (⟨"com/example/termwell/termwell/core/text/CharClassesPerlPinLaw", "expected", "(II)Z"⟩ : MethodName) method_2_code 2 (some .boolean) :: ws) ({ frames := 0, cells := 0, slots := 0, locals := 0 } : Room)) (fun a U => a = #[(.int 0), (.int x)] ∧ Z.Warmed39 U.vm ∧ U.heap = h0) (fun _ _ _ _ _ => True) (fun _ U o U' => ∃ v L, o = .returned v ∧ Q5_all_DIGIT Z x h0 n0 v U'.heap L ∧ FrameEnd U o U' L ({ frames := 0, cells := 0, slots := 0, locals := 0 } : Room).cells ({ frames := 0, cells := 0, slots := 0, locals := 0 } : Room).slots) := by
  rcases (by omega : (x.toInt < 48) ∨ (47 < x.toInt ∧ x.toInt < 58) ∨ (57 < x.toInt)) with h | h | h
  · exact rm5_0_x_None_48_all_DIGIT l Z a0 hw ws x h0 n0 Z0 (own_ilt (by decide) h) (by unfold own_d; (repeat' split) <;> first | rfl | (exfalso; omega))
  · exact rm5_0_x_47_58_all_DIGIT l Z a0 hw ws x h0 n0 Z0 (own_igt (by decide) h.1) (own_ilt (by decide) h.2) (by unfold own_d; (repeat' split) <;> first | rfl | (exfalso; omega))
  · exact rm5_0_x_57_None_all_DIGIT l Z a0 hw ws x h0 n0 Z0 (own_igt (by decide) h) (by unfold own_d; (repeat' split) <;> first | rfl | (exfalso; omega))
def Q1_100 (Z : State) (w_DIGIT : Addr) (h0 : Heap) (n0 : Nat) (v : Option Value) (h : Heap) (L : List Loc) : Prop := v = some (.ref w_DIGIT) ∧ Fr n0 L ∧ h = h0
set_option maxRecDepth 65536 in
set_option maxHeartbeats 40000000 in
theorem rm1_100 (l : Launch) (Z : State) (a0 : Array Value) (hw : ∀ d ∈ tables_1, d.before a0 Z = true) (ws : List Jvm.Cond) (w_DIGIT : Addr) (h0 : Heap) (n0 : Nat) (Z0 : n0 ≤ h0.size) (S_DIGIT : Sta Z h0 "com/example/termwell/termwell/core/text/CharClasses" "DIGIT" "Lcom/example/termwell/termwell/core/text/CodePointSet;" (.ref w_DIGIT)) :
    MetFree l (⟨"com/example/termwell/termwell/core/text/CharClasses", "perl", "(C)Lcom/example/termwell/termwell/core/text/CodePointSet;"⟩ : MethodName) (head1 (Jvm.Cond.code (⟨"com/example/termwell/termwell/core/text/CharClasses", "perl", "(C)Lcom/example/termwell/termwell/core/text/CodePointSet;"⟩ : MethodName) prog_15_method_2_code 1 (some (.object "com/example/termwell/termwell/core/text/CodePointSet")) :: ws) ({ frames := 0, cells := 0, slots := 0, locals := 0 } : Room)) (fun a U => a = #[(.int 100)] ∧ Z.Warmed39 U.vm ∧ U.heap = h0) (fun _ _ _ _ _ => True) (fun _ U o U' => ∃ v L, o = .returned v ∧ Q1_100 Z w_DIGIT h0 n0 v U'.heap L ∧ FrameEnd U o U' L ({ frames := 0, cells := 0, slots := 0, locals := 0 } : Room).cells ({ frames := 0, cells := 0, slots := 0, locals := 0 } : Room).slots) := by
  refine MetFree.of_bodySF (plainFor_of_name pn_1) hisR ?_
  intro p e s m args below meth c s₁ Bd hml0 hP hK
  obtain ⟨rfl, hZ, hh⟩ := hP
  have hx := Bd.exec
  have hby := Bd.bytes
  have hml : c.maxLocals = 1 := hml0
  have hown : s.vm.findClass "com/example/termwell/termwell/core/text/CharClasses" = some m.cls := findClass_of_methodNamed Bd.named
  have hnm := (name_of_methodNamed Bd.named Bd.method).1
  have X0 : Stand p l e ({ frames := 0, cells := 0, slots := 0, locals := 0 } : Room) s m #[(.int 100)] below meth c s₁ [] 0 0 := Stand.of_body Bd
  have e0 : s₁.heap = h0 := by rw [← hh, Bd.state]; rfl
  have N0 := Fr.nil n0
  have pre0 : ∀ t, Steps p.tables e below (s₁.setTop (mkF m 0 #[.val (.int 100)] [])) t → Steps p.tables e below (s₁.setTop (entryFrame m #[(.int 100)] 1)) t := fun t k => castTop (by first | (simp [entryFrame, mkF, argsToLocals, Value.category]; done) | rfl) k
  obtain ⟨T1, X1, e1, st1⟩ := getS2 X0 hx hZ hown (host := "") (Or.inl (hw _ (List.mem_of_getElem? (i := 5) rfl))) Via.refl e0 S_DIGIT (g := (mkF m 36 #[.val (.int 100)] [])) rfl (hb hby d1_36)
  obtain ⟨fs, hr, hrun, hended, hW, hsame⟩ := X1.leave (v := some (.ref w_DIGIT)) (fun h => by rw [Bd.returns] at h; cases h)
  refine ⟨_, _, pre0 _ ?_, hrun, hended, _, _, rfl, ?_, ⟨_, rfl⟩, hW, hsame.mono (by decide) (by decide)⟩
  · show Steps p.tables e below (s₁.setTop (mkF m 0 #[.val (.int 100)] [])) _
    refine XS.iloadN X0.here hx rfl (hb hby d1_0) rfl ?_
    show Steps p.tables e below (s₁.setTop (mkF m 1 #[.val (.int 100)] [(.int 100)])) _
    refine X0.lookupswitchHit hx (g := (mkF m 1 #[.val (.int 100)] [(.int 100)])) rfl (k := (100 : Int32)) (rest := []) rfl (hb hby d1_1) (by decide) (a := 100) (off := 35) (by decide) (by show (0 : Int) ≤ ((1 : Nat) : Int) + 35; decide) _ ?_
    show Steps p.tables e below (s₁.setTop (mkF m 36 #[.val (.int 100)] [])) _
    refine st1 _ ?_
    show Steps p.tables e below (T1.setTop (mkF m 39 #[.val (.int 100)] [(.ref w_DIGIT)])) _
    refine XS.goto X1.here hx rfl (pc0 := 39) (pc' := 68) rfl (hb hby d1_39) (by decide) (by decide) ?_
    show Steps p.tables e below (T1.setTop (mkF m 68 #[.val (.int 100)] [(.ref w_DIGIT)])) _
    jvm_step X1.here [X1.here.top, hx, (hb hby d1_68), X1.method', Bd.returns, Value.isRef, FieldType.isReference]
    first | (intro acts; rw [hr _ acts rfl rfl rfl]) | rw [hr _ _ rfl rfl rfl]
    exact Steps.refl _
  · show Q1_100 Z w_DIGIT h0 n0 _ T1.heap _
    rw [e1]
    exact ⟨rfl, N0, rfl⟩
def Q0_k0 (Z : State) (p1 : Int32) (p2 : Int32) (w_DIGIT : Addr) (r_DIGIT : Addr) (k_DIGIT : ClassId) (h0 : Heap) (n0 : Nat) (v : Option Value) (h : Heap) (L : List Loc) : Prop := v = some (.int 1) ∧ Fr n0 L ∧ h = h0
set_option maxRecDepth 65536 in
set_option maxHeartbeats 40000000 in
theorem rm0_k0 (l : Launch) (Z : State) (a0 : Array Value) (hw : ∀ d ∈ tables_1, d.before a0 Z = true) (ws : List Jvm.Cond) (p1 : Int32) (p2 : Int32) (w_DIGIT : Addr) (r_DIGIT : Addr) (k_DIGIT : ClassId) (h0 : Heap) (n0 : Nat) (Z0 : n0 ≤ h0.size) (hk : ((p1 &&& (2147483647 : Int32)) % (3 : Int32)) = (0 : Int32)) (S_DIGIT : Sta Z h0 "com/example/termwell/termwell/core/text/CharClasses" "DIGIT" "Lcom/example/termwell/termwell/core/text/CodePointSet;" (.ref w_DIGIT)) (F_ranges_w_DIGIT : Fld Z h0 w_DIGIT "com/example/termwell/termwell/core/text/CodePointSet" "ranges" "[I" (.ref r_DIGIT)) (V_r_DIGIT : Arv Z h0 r_DIGIT k_DIGIT .int (2 : Int32) [(.int 48), (.int 57)] (.int (0 : Int32))) (E_w_DIGIT : Exa Z h0 w_DIGIT "com/example/termwell/termwell/core/text/CodePointSet") :
    MetFree l x (head1 (Jvm.Cond.code x code maxLocals ret :: ws) room_1) (fun a U => a = #[(.int p1), (.int p2)] ∧ Z.Warmed39 U.vm ∧ U.heap = h0) (fun _ _ _ _ _ => True) (fun _ U o U' => ∃ v L, o = .returned v ∧ Q0_k0 Z p1 p2 w_DIGIT r_DIGIT k_DIGIT h0 n0 v U'.heap L ∧ FrameEnd U o U' L room_1.cells room_1.slots) := by
  refine MetFree.of_bodySF (plainFor_of_name pn_0) hisR ?_
  intro p e s m args below meth c s₁ Bd hml0 hP hK
  obtain ⟨rfl, hZ, hh⟩ := hP
  have hx := Bd.exec
  have hby := Bd.bytes
  have hml : c.maxLocals = 8 := hml0
  have hown : s.vm.findClass "com/example/termwell/termwell/core/text/CharClassesPerlPinLaw" = some m.cls := findClass_of_methodNamed Bd.named
  have hnm := (name_of_methodNamed Bd.named Bd.method).1
  have X0 : Stand p l e room_1 s m #[(.int p1), (.int p2)] below meth c s₁ [] 0 0 := Stand.of_body Bd
  have e0 : s₁.heap = h0 := by rw [← hh, Bd.state]; rfl
  have N0 := Fr.nil n0
  have pre0 : ∀ t, Steps p.tables e below (s₁.setTop (mkF m 0 #[.val (.int p1), .val (.int p2), .unset, .unset, .unset, .unset, .unset, .unset] [])) t → Steps p.tables e below (s₁.setTop (entryFrame m #[(.int p1), (.int p2)] maxLocals)) t := fun t k => castTop (by first | (simp [entryFrame, mkF, argsToLocals, Value.category, maxLocals]; done) | rfl) k
  obtain ⟨_, _, ⟨T1, L1, k1, n1⟩, -, X1, ⟨Lc1, hQ1, l1, y1, z1⟩, st1⟩ := Jvm.LawKit.callS X0 hx (y := (⟨"com/example/termwell/termwell/core/text/CharClasses", "perl", "(C)Lcom/example/termwell/termwell/core/text/CodePointSet;"⟩ : MethodName)) hown (mvT hZ (hw _ (List.mem_of_getElem? (i := 1) rfl))) (mvT hZ (hw _ (List.mem_of_getElem? (i := 2) rfl))) (mvT hZ (hw _ (List.mem_of_getElem? (i := 3) rfl))) (mvT hZ (hw _ (List.mem_of_getElem? (i := 4) rfl))) (by decide) (backOf (W := 0) (rm1_100 l Z a0 hw [] w_DIGIT h0 n0 Z0 S_DIGIT) hZ (hw _ (List.mem_of_getElem? (i := 4) rfl)) (hw _ (List.mem_of_getElem? (i := 3) rfl)) (by decide) (by decide)) (g := (mkF m 30 #[.val (.int p1), .val (.int p2), .val (.int 0), .val (.int 100), .unset, .unset, .unset, .unset] [(.int 100)])) rfl (by rw [hml]; rfl) (argsL := [(.int 100)]) (rest := []) (lenOf pd__C_Lcom_example_termwell_termwell_core_text_CodePointSet_ rfl) rfl (by show 2 * 0 + _ ≤ _; exact Nat.le_of_eq rfl) (hb hby at_30) (fun _ _ => ⟨rfl, e0, (by decide : 0 + 0 ≤ _), (by decide : 0 + 0 ≤ _)⟩)
  dsimp only [Pt.U, Pt.locs, Pt.cells, Pt.slots] at X1 l1 y1 z1 st1 hQ1
  subst l1 y1 z1
  obtain ⟨rfl, N1q, e1⟩ := hQ1
  have N1 := Fr.app N0 N1q
  obtain ⟨cq2, kq2, q2a, q2b, q2c⟩ := isOf hZ e1 E_w_DIGIT
  obtain ⟨_, _, ⟨T2, L2, k2, n2⟩, -, X2, ⟨Lc2, hQ2, l2, y2, z2⟩, st2⟩ := X1.virtualBack hx (y := (⟨"com/example/termwell/termwell/core/text/CodePointSet", "contains", "(I)Z"⟩ : MethodName)) (z := (⟨"com/example/termwell/termwell/core/text/CodePointSet", "contains", "(I)Z"⟩ : MethodName)) hown (mvT hZ (hw _ (List.mem_of_getElem? (i := 7) rfl))) (mvT hZ (hw _ (List.mem_of_getElem? (i := 8) rfl))) (notFace_of_selects (args := #[]) (mvT hZ (hw _ (List.mem_of_getElem? (i := 10) rfl)))) (mvT hZ (hw _ (List.mem_of_getElem? (i := 10) rfl))) (mvT hZ (hw _ (List.mem_of_getElem? (i := 9) rfl))) (by decide) (backOf (W := 0) (rm2_all_DIGIT l Z a0 hw [] p2 w_DIGIT r_DIGIT k_DIGIT h0 n0 Z0 F_ranges_w_DIGIT V_r_DIGIT) hZ (hw _ (List.mem_of_getElem? (i := 12) rfl)) (hw _ (List.mem_of_getElem? (i := 11) rfl)) (by decide) (by decide)) q2a q2c (g := (mkF m 45 #[.val (.int p1), .val (.int p2), .val (.int 0), .val (.int 100), .val (.ref w_DIGIT), .val (.int (p2 &&& (255 : Int32))), .unset, .unset] [(.int p2), (.ref w_DIGIT)])) rfl (by rw [hml]; rfl) (Steps.refl _) (argsL := [(.int p2)]) (rest := []) (lenOf pd__I_Z rfl) rfl (by show 2 * 0 + _ ≤ _; exact Nat.le_of_eq rfl) (hb hby at_45) (fun _ _ => ⟨rfl, e1, (by decide : 0 + 0 ≤ _), (by decide : 0 + 0 ≤ _)⟩)
  dsimp only [Pt.U, Pt.locs, Pt.cells, Pt.slots] at X2 l2 y2 z2 st2 hQ2
  subst l2 y2 z2
  obtain ⟨rfl, N2q, e2⟩ := hQ2
  have N2 := Fr.app N1 N2q
  obtain ⟨_, _, ⟨T3, L3, k3, n3⟩, -, X3, ⟨Lc3, hQ3, l3, y3, z3⟩, st3⟩ := Jvm.LawKit.callS X2 hx (y := (⟨"com/example/termwell/termwell/core/text/CharClassesPerlPinLaw", "expected", "(II)Z"⟩ : MethodName)) hown (mvT hZ (hw _ (List.mem_of_getElem? (i := 22) rfl))) (mvT hZ (hw _ (List.mem_of_getElem? (i := 23) rfl))) (mvT hZ (hw _ (List.mem_of_getElem? (i := 24) rfl))) (mvT hZ (hw _ (List.mem_of_getElem? (i := 25) rfl))) (by decide) (backOf (W := 1) (rm5_all_DIGIT l Z a0 hw [] p2 h0 n0 Z0) hZ (hw _ (List.mem_of_getElem? (i := 25) rfl)) (hw _ (List.mem_of_getElem? (i := 24) rfl)) (by decide) (by decide)) (g := (mkF m 50 #[.val (.int p1), .val (.int p2), .val (.int 0), .val (.int 100), .val (.ref w_DIGIT), .val (.int (p2 &&& (255 : Int32))), .unset, .unset] [(.int p2), (.int 0), (.int (own_d p2))])) rfl (by rw [hml]; rfl) (argsL := [(.int 0), (.int p2)]) (rest := [(.int (own_d p2))]) (lenOf pd__II_Z rfl) rfl (by show 2 * 0 + _ ≤ _; exact Nat.le_of_eq rfl) (hb hby at_50) (fun _ _ => ⟨rfl, e2, (by decide : 0 + 0 ≤ _), (by decide : 0 + 0 ≤ _)⟩)
  dsimp only [Pt.U, Pt.locs, Pt.cells, Pt.slots] at X3 l3 y3 z3 st3 hQ3
  subst l3 y3 z3
  obtain ⟨rfl, N3q, e3⟩ := hQ3
  have N3 := Fr.app N2 N3q
  obtain ⟨cq4, kq4, q4a, q4b, q4c⟩ := isOf hZ e3 E_w_DIGIT
  obtain ⟨_, _, ⟨T4, L4, k4, n4⟩, -, X4, ⟨Lc4, hQ4, l4, y4, z4⟩, st4⟩ := X3.virtualBack hx (y := (⟨"com/example/termwell/termwell/core/text/CodePointSet", "contains", "(I)Z"⟩ : MethodName)) (z := (⟨"com/example/termwell/termwell/core/text/CodePointSet", "contains", "(I)Z"⟩ : MethodName)) hown (mvT hZ (hw _ (List.mem_of_getElem? (i := 7) rfl))) (mvT hZ (hw _ (List.mem_of_getElem? (i := 8) rfl))) (notFace_of_selects (args := #[]) (mvT hZ (hw _ (List.mem_of_getElem? (i := 10) rfl)))) (mvT hZ (hw _ (List.mem_of_getElem? (i := 10) rfl))) (mvT hZ (hw _ (List.mem_of_getElem? (i := 9) rfl))) (by decide) (backOf (W := 0) (rm2_all_DIGIT l Z a0 hw [] (p2 &&& (255 : Int32)) w_DIGIT r_DIGIT k_DIGIT h0 n0 Z0 F_ranges_w_DIGIT V_r_DIGIT) hZ (hw _ (List.mem_of_getElem? (i := 12) rfl)) (hw _ (List.mem_of_getElem? (i := 11) rfl)) (by decide) (by decide)) q4a q4c (g := (mkF m 67 #[.val (.int p1), .val (.int p2), .val (.int 0), .val (.int 100), .val (.ref w_DIGIT), .val (.int (p2 &&& (255 : Int32))), .val (.int 1), .unset] [(.int (p2 &&& (255 : Int32))), (.ref w_DIGIT)])) rfl (by rw [hml]; rfl) (Steps.refl _) (argsL := [(.int (p2 &&& (255 : Int32)))]) (rest := []) (lenOf pd__I_Z rfl) rfl (by show 2 * 0 + _ ≤ _; exact Nat.le_of_eq rfl) (hb hby at_67) (fun _ _ => ⟨rfl, e3, (by decide : 0 + 0 ≤ _), (by decide : 0 + 0 ≤ _)⟩)
  dsimp only [Pt.U, Pt.locs, Pt.cells, Pt.slots] at X4 l4 y4 z4 st4 hQ4
  subst l4 y4 z4
  obtain ⟨rfl, N4q, e4⟩ := hQ4
  have N4 := Fr.app N3 N4q
  obtain ⟨_, _, ⟨T5, L5, k5, n5⟩, -, X5, ⟨Lc5, hQ5, l5, y5, z5⟩, st5⟩ := Jvm.LawKit.callS X4 hx (y := (⟨"com/example/termwell/termwell/core/text/CharClassesPerlPinLaw", "expected", "(II)Z"⟩ : MethodName)) hown (mvT hZ (hw _ (List.mem_of_getElem? (i := 22) rfl))) (mvT hZ (hw _ (List.mem_of_getElem? (i := 23) rfl))) (mvT hZ (hw _ (List.mem_of_getElem? (i := 24) rfl))) (mvT hZ (hw _ (List.mem_of_getElem? (i := 25) rfl))) (by decide) (backOf (W := 1) (rm5_all_DIGIT l Z a0 hw [] (p2 &&& (255 : Int32)) h0 n0 Z0) hZ (hw _ (List.mem_of_getElem? (i := 25) rfl)) (hw _ (List.mem_of_getElem? (i := 24) rfl)) (by decide) (by decide)) (g := (mkF m 73 #[.val (.int p1), .val (.int p2), .val (.int 0), .val (.int 100), .val (.ref w_DIGIT), .val (.int (p2 &&& (255 : Int32))), .val (.int 1), .unset] [(.int (p2 &&& (255 : Int32))), (.int 0), (.int (own_d (p2 &&& (255 : Int32))))])) rfl (by rw [hml]; rfl) (argsL := [(.int 0), (.int (p2 &&& (255 : Int32)))]) (rest := [(.int (own_d (p2 &&& (255 : Int32))))]) (lenOf pd__II_Z rfl) rfl (by show 2 * 0 + _ ≤ _; exact Nat.le_of_eq rfl) (hb hby at_73) (fun _ _ => ⟨rfl, e4, (by decide : 0 + 0 ≤ _), (by decide : 0 + 0 ≤ _)⟩)
  dsimp only [Pt.U, Pt.locs, Pt.cells, Pt.slots] at X5 l5 y5 z5 st5 hQ5
  subst l5 y5 z5
  obtain ⟨rfl, N5q, e5⟩ := hQ5
  have N5 := Fr.app N4 N5q
  obtain ⟨fs, hr, hrun, hended, hW, hsame⟩ := X5.leave (v := some (.int 1)) (fun h => by rw [Bd.returns] at h; cases h)
  refine ⟨_, _, pre0 _ ?_, hrun, hended, _, _, rfl, ?_, ⟨_, rfl⟩, hW, hsame.mono (by decide) (by decide)⟩
  · show Steps p.tables e below (s₁.setTop (mkF m 0 #[.val (.int p1), .val (.int p2), .unset, .unset, .unset, .unset, .unset, .unset] [])) _
    refine XS.iloadN X0.here hx rfl (hb hby at_0) rfl ?_
    show Steps p.tables e below (s₁.setTop (mkF m 1 #[.val (.int p1), .val (.int p2), .unset, .unset, .unset, .unset, .unset, .unset] [(.int p1)])) _
    refine X0.ldcInt hx hown (mvT hZ (hw _ (List.mem_of_getElem? (i := 0) rfl))) (g := (mkF m 1 #[.val (.int p1), .val (.int p2), .unset, .unset, .unset, .unset, .unset, .unset] [(.int p1)])) rfl (hb hby at_1) _ ?_
    show Steps p.tables e below (s₁.setTop (mkF m 3 #[.val (.int p1), .val (.int p2), .unset, .unset, .unset, .unset, .unset, .unset] [(.int 2147483647), (.int p1)])) _
    refine XS.iand X0.here hx rfl (hb hby at_3) rfl ?_
    show Steps p.tables e below (s₁.setTop (mkF m 4 #[.val (.int p1), .val (.int p2), .unset, .unset, .unset, .unset, .unset, .unset] [(.int (p1 &&& (2147483647 : Int32)))])) _
    refine XS.iconst X0.here hx rfl (hb hby at_4) ?_
    show Steps p.tables e below (s₁.setTop (mkF m 5 #[.val (.int p1), .val (.int p2), .unset, .unset, .unset, .unset, .unset, .unset] [(.int 3), (.int (p1 &&& (2147483647 : Int32)))])) _
    refine iremM X0 hx rfl (hb hby at_5) rfl (by decide) ?_
    show Steps p.tables e below (s₁.setTop (mkF m 6 #[.val (.int p1), .val (.int p2), .unset, .unset, .unset, .unset, .unset, .unset] [(.int ((p1 &&& (2147483647 : Int32)) % (3 : Int32)))])) _
    rw [hk]
    show Steps p.tables e below (s₁.setTop (mkF m 6 #[.val (.int p1), .val (.int p2), .unset, .unset, .unset, .unset, .unset, .unset] [(.int 0)])) _
    refine XS.istoreN X0.here hx rfl (hb hby at_6) rfl (l' := #[.val (.int p1), .val (.int p2), .val (.int 0), .unset, .unset, .unset, .unset, .unset]) rfl ?_
    show Steps p.tables e below (s₁.setTop (mkF m 7 #[.val (.int p1), .val (.int p2), .val (.int 0), .unset, .unset, .unset, .unset, .unset] [])) _
    refine XS.iloadN X0.here hx rfl (hb hby at_7) rfl ?_
    show Steps p.tables e below (s₁.setTop (mkF m 8 #[.val (.int p1), .val (.int p2), .val (.int 0), .unset, .unset, .unset, .unset, .unset] [(.int 0)])) _
    refine XS.ifNo X0.here hx rfl (hb hby at_8) rfl ((if0 _ _).trans (teq (by decide : (0 : Int32) = (0 : Int32))).2) ?_
    show Steps p.tables e below (s₁.setTop (mkF m 11 #[.val (.int p1), .val (.int p2), .val (.int 0), .unset, .unset, .unset, .unset, .unset] [])) _
    refine XS.bipush X0.here hx rfl (hb hby at_11) ?_
    show Steps p.tables e below (s₁.setTop (mkF m 13 #[.val (.int p1), .val (.int p2), .val (.int 0), .unset, .unset, .unset, .unset, .unset] [(.int 100)])) _
    refine XS.goto X0.here hx rfl (pc0 := 13) (pc' := 28) rfl (hb hby at_13) (by decide) (by decide) ?_
    show Steps p.tables e below (s₁.setTop (mkF m 28 #[.val (.int p1), .val (.int p2), .val (.int 0), .unset, .unset, .unset, .unset, .unset] [(.int 100)])) _
    refine XS.istoreN X0.here hx rfl (hb hby at_28) rfl (l' := #[.val (.int p1), .val (.int p2), .val (.int 0), .val (.int 100), .unset, .unset, .unset, .unset]) rfl ?_
    show Steps p.tables e below (s₁.setTop (mkF m 29 #[.val (.int p1), .val (.int p2), .val (.int 0), .val (.int 100), .unset, .unset, .unset, .unset] [])) _
    refine XS.iloadN X0.here hx rfl (hb hby at_29) rfl ?_
    show Steps p.tables e below (s₁.setTop (mkF m 30 #[.val (.int p1), .val (.int p2), .val (.int 0), .val (.int 100), .unset, .unset, .unset, .unset] [(.int 100)])) _
    refine st1 _ ?_
    show Steps p.tables e below (T1.setTop (mkF m 33 #[.val (.int p1), .val (.int p2), .val (.int 0), .val (.int 100), .unset, .unset, .unset, .unset] [(.ref w_DIGIT)])) _
    refine XS.astore X1.here hx rfl (hb hby at_33) rfl rfl (l' := #[.val (.int p1), .val (.int p2), .val (.int 0), .val (.int 100), .val (.ref w_DIGIT), .unset, .unset, .unset]) rfl ?_
    show Steps p.tables e below (T1.setTop (mkF m 35 #[.val (.int p1), .val (.int p2), .val (.int 0), .val (.int 100), .val (.ref w_DIGIT), .unset, .unset, .unset] [])) _
    refine XS.iloadN X1.here hx rfl (hb hby at_35) rfl ?_
    show Steps p.tables e below (T1.setTop (mkF m 36 #[.val (.int p1), .val (.int p2), .val (.int 0), .val (.int 100), .val (.ref w_DIGIT), .unset, .unset, .unset] [(.int p2)])) _
    refine XS.sipush X1.here hx rfl (hb hby at_36) ?_
    show Steps p.tables e below (T1.setTop (mkF m 39 #[.val (.int p1), .val (.int p2), .val (.int 0), .val (.int 100), .val (.ref w_DIGIT), .unset, .unset, .unset] [(.int 255), (.int p2)])) _
    refine XS.iand X1.here hx rfl (hb hby at_39) rfl ?_
    show Steps p.tables e below (T1.setTop (mkF m 40 #[.val (.int p1), .val (.int p2), .val (.int 0), .val (.int 100), .val (.ref w_DIGIT), .unset, .unset, .unset] [(.int (p2 &&& (255 : Int32)))])) _
    refine XS.istore X1.here hx rfl (hb hby at_40) rfl (l' := #[.val (.int p1), .val (.int p2), .val (.int 0), .val (.int 100), .val (.ref w_DIGIT), .val (.int (p2 &&& (255 : Int32))), .unset, .unset]) rfl ?_
    show Steps p.tables e below (T1.setTop (mkF m 42 #[.val (.int p1), .val (.int p2), .val (.int 0), .val (.int 100), .val (.ref w_DIGIT), .val (.int (p2 &&& (255 : Int32))), .unset, .unset] [])) _
    refine XS.aload X1.here hx rfl (hb hby at_42) rfl rfl ?_
    show Steps p.tables e below (T1.setTop (mkF m 44 #[.val (.int p1), .val (.int p2), .val (.int 0), .val (.int 100), .val (.ref w_DIGIT), .val (.int (p2 &&& (255 : Int32))), .unset, .unset] [(.ref w_DIGIT)])) _
    refine XS.iloadN X1.here hx rfl (hb hby at_44) rfl ?_
    show Steps p.tables e below (T1.setTop (mkF m 45 #[.val (.int p1), .val (.int p2), .val (.int 0), .val (.int 100), .val (.ref w_DIGIT), .val (.int (p2 &&& (255 : Int32))), .unset, .unset] [(.int p2), (.ref w_DIGIT)])) _
    refine st2.trans ?_
    show Steps p.tables e below (T2.setTop (mkF m 48 #[.val (.int p1), .val (.int p2), .val (.int 0), .val (.int 100), .val (.ref w_DIGIT), .val (.int (p2 &&& (255 : Int32))), .unset, .unset] [(.int (own_d p2))])) _
    refine XS.iloadN X2.here hx rfl (hb hby at_48) rfl ?_
    show Steps p.tables e below (T2.setTop (mkF m 49 #[.val (.int p1), .val (.int p2), .val (.int 0), .val (.int 100), .val (.ref w_DIGIT), .val (.int (p2 &&& (255 : Int32))), .unset, .unset] [(.int 0), (.int (own_d p2))])) _
    refine XS.iloadN X2.here hx rfl (hb hby at_49) rfl ?_
    show Steps p.tables e below (T2.setTop (mkF m 50 #[.val (.int p1), .val (.int p2), .val (.int 0), .val (.int 100), .val (.ref w_DIGIT), .val (.int (p2 &&& (255 : Int32))), .unset, .unset] [(.int p2), (.int 0), (.int (own_d p2))])) _
    refine st3 _ ?_
    show Steps p.tables e below (T3.setTop (mkF m 53 #[.val (.int p1), .val (.int p2), .val (.int 0), .val (.int 100), .val (.ref w_DIGIT), .val (.int (p2 &&& (255 : Int32))), .unset, .unset] [(.int (own_d p2)), (.int (own_d p2))])) _
    refine XS.icmpNo X3.here hx rfl (hb hby at_53) rfl (teq (rfl : (own_d p2) = (own_d p2))).2 ?_
    show Steps p.tables e below (T3.setTop (mkF m 56 #[.val (.int p1), .val (.int p2), .val (.int 0), .val (.int 100), .val (.ref w_DIGIT), .val (.int (p2 &&& (255 : Int32))), .unset, .unset] [])) _
    refine XS.iconst X3.here hx rfl (hb hby at_56) ?_
    show Steps p.tables e below (T3.setTop (mkF m 57 #[.val (.int p1), .val (.int p2), .val (.int 0), .val (.int 100), .val (.ref w_DIGIT), .val (.int (p2 &&& (255 : Int32))), .unset, .unset] [(.int 1)])) _
    refine XS.goto X3.here hx rfl (pc0 := 57) (pc' := 61) rfl (hb hby at_57) (by decide) (by decide) ?_
    show Steps p.tables e below (T3.setTop (mkF m 61 #[.val (.int p1), .val (.int p2), .val (.int 0), .val (.int 100), .val (.ref w_DIGIT), .val (.int (p2 &&& (255 : Int32))), .unset, .unset] [(.int 1)])) _
    refine XS.istore X3.here hx rfl (hb hby at_61) rfl (l' := #[.val (.int p1), .val (.int p2), .val (.int 0), .val (.int 100), .val (.ref w_DIGIT), .val (.int (p2 &&& (255 : Int32))), .val (.int 1), .unset]) rfl ?_
    show Steps p.tables e below (T3.setTop (mkF m 63 #[.val (.int p1), .val (.int p2), .val (.int 0), .val (.int 100), .val (.ref w_DIGIT), .val (.int (p2 &&& (255 : Int32))), .val (.int 1), .unset] [])) _
    refine XS.aload X3.here hx rfl (hb hby at_63) rfl rfl ?_
    show Steps p.tables e below (T3.setTop (mkF m 65 #[.val (.int p1), .val (.int p2), .val (.int 0), .val (.int 100), .val (.ref w_DIGIT), .val (.int (p2 &&& (255 : Int32))), .val (.int 1), .unset] [(.ref w_DIGIT)])) _
    refine XS.iload X3.here hx rfl (hb hby at_65) rfl ?_
    show Steps p.tables e below (T3.setTop (mkF m 67 #[.val (.int p1), .val (.int p2), .val (.int 0), .val (.int 100), .val (.ref w_DIGIT), .val (.int (p2 &&& (255 : Int32))), .val (.int 1), .unset] [(.int (p2 &&& (255 : Int32))), (.ref w_DIGIT)])) _
    refine st4.trans ?_
    show Steps p.tables e below (T4.setTop (mkF m 70 #[.val (.int p1), .val (.int p2), .val (.int 0), .val (.int 100), .val (.ref w_DIGIT), .val (.int (p2 &&& (255 : Int32))), .val (.int 1), .unset] [(.int (own_d (p2 &&& (255 : Int32))))])) _
    refine XS.iloadN X4.here hx rfl (hb hby at_70) rfl ?_
    show Steps p.tables e below (T4.setTop (mkF m 71 #[.val (.int p1), .val (.int p2), .val (.int 0), .val (.int 100), .val (.ref w_DIGIT), .val (.int (p2 &&& (255 : Int32))), .val (.int 1), .unset] [(.int 0), (.int (own_d (p2 &&& (255 : Int32))))])) _
    refine XS.iload X4.here hx rfl (hb hby at_71) rfl ?_
    show Steps p.tables e below (T4.setTop (mkF m 73 #[.val (.int p1), .val (.int p2), .val (.int 0), .val (.int 100), .val (.ref w_DIGIT), .val (.int (p2 &&& (255 : Int32))), .val (.int 1), .unset] [(.int (p2 &&& (255 : Int32))), (.int 0), (.int (own_d (p2 &&& (255 : Int32))))])) _
    refine st5 _ ?_
    show Steps p.tables e below (T5.setTop (mkF m 76 #[.val (.int p1), .val (.int p2), .val (.int 0), .val (.int 100), .val (.ref w_DIGIT), .val (.int (p2 &&& (255 : Int32))), .val (.int 1), .unset] [(.int (own_d (p2 &&& (255 : Int32)))), (.int (own_d (p2 &&& (255 : Int32))))])) _
    refine XS.icmpNo X5.here hx rfl (hb hby at_76) rfl (teq (rfl : (own_d (p2 &&& (255 : Int32))) = (own_d (p2 &&& (255 : Int32))))).2 ?_
    show Steps p.tables e below (T5.setTop (mkF m 79 #[.val (.int p1), .val (.int p2), .val (.int 0), .val (.int 100), .val (.ref w_DIGIT), .val (.int (p2 &&& (255 : Int32))), .val (.int 1), .unset] [])) _
    refine XS.iconst X5.here hx rfl (hb hby at_79) ?_
    show Steps p.tables e below (T5.setTop (mkF m 80 #[.val (.int p1), .val (.int p2), .val (.int 0), .val (.int 100), .val (.ref w_DIGIT), .val (.int (p2 &&& (255 : Int32))), .val (.int 1), .unset] [(.int 1)])) _
    refine XS.goto X5.here hx rfl (pc0 := 80) (pc' := 84) rfl (hb hby at_80) (by decide) (by decide) ?_
    show Steps p.tables e below (T5.setTop (mkF m 84 #[.val (.int p1), .val (.int p2), .val (.int 0), .val (.int 100), .val (.ref w_DIGIT), .val (.int (p2 &&& (255 : Int32))), .val (.int 1), .unset] [(.int 1)])) _
    refine XS.istore X5.here hx rfl (hb hby at_84) rfl (l' := #[.val (.int p1), .val (.int p2), .val (.int 0), .val (.int 100), .val (.ref w_DIGIT), .val (.int (p2 &&& (255 : Int32))), .val (.int 1), .val (.int 1)]) rfl ?_
    show Steps p.tables e below (T5.setTop (mkF m 86 #[.val (.int p1), .val (.int p2), .val (.int 0), .val (.int 100), .val (.ref w_DIGIT), .val (.int (p2 &&& (255 : Int32))), .val (.int 1), .val (.int 1)] [])) _
    refine XS.iload X5.here hx rfl (hb hby at_86) rfl ?_
    show Steps p.tables e below (T5.setTop (mkF m 88 #[.val (.int p1), .val (.int p2), .val (.int 0), .val (.int 100), .val (.ref w_DIGIT), .val (.int (p2 &&& (255 : Int32))), .val (.int 1), .val (.int 1)] [(.int 1)])) _
    refine XS.ifNo X5.here hx rfl (hb hby at_88) rfl ((if0 _ _).trans (feq (by decide : ¬ ((1 : Int32) = (0 : Int32)))).1) ?_
    show Steps p.tables e below (T5.setTop (mkF m 91 #[.val (.int p1), .val (.int p2), .val (.int 0), .val (.int 100), .val (.ref w_DIGIT), .val (.int (p2 &&& (255 : Int32))), .val (.int 1), .val (.int 1)] [])) _
    refine XS.iload X5.here hx rfl (hb hby at_91) rfl ?_
    show Steps p.tables e below (T5.setTop (mkF m 93 #[.val (.int p1), .val (.int p2), .val (.int 0), .val (.int 100), .val (.ref w_DIGIT), .val (.int (p2 &&& (255 : Int32))), .val (.int 1), .val (.int 1)] [(.int 1)])) _
    refine XS.ifNo X5.here hx rfl (hb hby at_93) rfl ((if0 _ _).trans (feq (by decide : ¬ ((1 : Int32) = (0 : Int32)))).1) ?_
    show Steps p.tables e below (T5.setTop (mkF m 96 #[.val (.int p1), .val (.int p2), .val (.int 0), .val (.int 100), .val (.ref w_DIGIT), .val (.int (p2 &&& (255 : Int32))), .val (.int 1), .val (.int 1)] [])) _
    refine XS.iconst X5.here hx rfl (hb hby at_96) ?_
    show Steps p.tables e below (T5.setTop (mkF m 97 #[.val (.int p1), .val (.int p2), .val (.int 0), .val (.int 100), .val (.ref w_DIGIT), .val (.int (p2 &&& (255 : Int32))), .val (.int 1), .val (.int 1)] [(.int 1)])) _
    refine XS.goto X5.here hx rfl (pc0 := 97) (pc' := 101) rfl (hb hby at_97) (by decide) (by decide) ?_
    show Steps p.tables e below (T5.setTop (mkF m 101 #[.val (.int p1), .val (.int p2), .val (.int 0), .val (.int 100), .val (.ref w_DIGIT), .val (.int (p2 &&& (255 : Int32))), .val (.int 1), .val (.int 1)] [(.int 1)])) _
    exact retN X5 hx (t := .boolean) Bd.returns (by simp) (hb hby at_101) hr
  · show Q0_k0 Z p1 p2 w_DIGIT r_DIGIT k_DIGIT h0 n0 _ T5.heap _
    rw [e5]
    exact ⟨rfl, N5, rfl⟩
def Q4_r_SPACE_0_6_x_None_9 (Z : State) (r_SPACE : Addr) (x : Int32) (k_SPACE : ClassId) (h0 : Heap) (n0 : Nat) (v : Option Value) (h : Heap) (L : List Loc) : Prop := v = some (.int (-1)) ∧ Fr n0 L ∧ h = h0
set_option maxRecDepth 65536 in
set_option maxHeartbeats 40000000 in
theorem rm4_r_SPACE_0_6_x_None_9 (l : Launch) (Z : State) (a0 : Array Value) (hw : ∀ d ∈ tables_1, d.before a0 Z = true) (ws : List Jvm.Cond) (r_SPACE : Addr) (x : Int32) (k_SPACE : ClassId) (h0 : Heap) (n0 : Nat) (Z0 : n0 ≤ h0.size) (hhi_x : x < (9 : Int32)) (V_r_SPACE : Arv Z h0 r_SPACE k_SPACE .int (6 : Int32) [(.int 9), (.int 10), (.int 12), (.int 13), (.int 32), (.int 32)] (.int (0 : Int32))) :
    MetFree l (⟨"java/util/Arrays", "binarySearch0", "([IIII)I"⟩ : MethodName) (head1 (Jvm.Cond.code (⟨"java/util/Arrays", "binarySearch0", "([IIII)I"⟩ : MethodName) jdk_65_method_59_code 8 (some .int) :: ws) ({ frames := 0, cells := 0, slots := 0, locals := 0 } : Room)) (fun a U => a = #[(.ref r_SPACE), (.int 0), (.int 6), (.int x)] ∧ Z.Warmed39 U.vm ∧ U.heap = h0) (fun _ _ _ _ _ => True) (fun _ U o U' => ∃ v L, o = .returned v ∧ Q4_r_SPACE_0_6_x_None_9 Z r_SPACE x k_SPACE h0 n0 v U'.heap L ∧ FrameEnd U o U' L ({ frames := 0, cells := 0, slots := 0, locals := 0 } : Room).cells ({ frames := 0, cells := 0, slots := 0, locals := 0 } : Room).slots) := by
  refine MetFree.of_bodySF (plainFor_of_name pn_4) hisR ?_
  intro p e s m args below meth c s₁ Bd hml0 hP hK
  obtain ⟨rfl, hZ, hh⟩ := hP
  have hx := Bd.exec
  have hby := Bd.bytes
  have hml : c.maxLocals = 8 := hml0
  have hown : s.vm.findClass "java/util/Arrays" = some m.cls := findClass_of_methodNamed Bd.named
  have hnm := (name_of_methodNamed Bd.named Bd.method).1
  have X0 : Stand p l e ({ frames := 0, cells := 0, slots := 0, locals := 0 } : Room) s m #[(.ref r_SPACE), (.int 0), (.int 6), (.int x)] below meth c s₁ [] 0 0 := Stand.of_body Bd
  have e0 : s₁.heap = h0 := by rw [← hh, Bd.state]; rfl
  have N0 := Fr.nil n0
  have pre0 : ∀ t, Steps p.tables e below (s₁.setTop (mkF m 0 #[.val (.ref r_SPACE), .val (.int 0), .val (.int 6), .val (.int x), .unset, .unset, .unset, .unset] [])) t → Steps p.tables e below (s₁.setTop (entryFrame m #[(.ref r_SPACE), (.int 0), (.int 6), (.int x)] 8)) t := fun t k => castTop (by first | (simp [entryFrame, mkF, argsToLocals, Value.category]; done) | rfl) k
  obtain ⟨fs, hr, hrun, hended, hW, hsame⟩ := X0.leave (v := some (.int (-1))) (fun h => by rw [Bd.returns] at h; cases h)
  refine ⟨_, _, pre0 _ ?_, hrun, hended, _, _, rfl, ?_, ⟨_, rfl⟩, hW, hsame.mono (by decide) (by decide)⟩
  · show Steps p.tables e below (s₁.setTop (mkF m 0 #[.val (.ref r_SPACE), .val (.int 0), .val (.int 6), .val (.int x), .unset, .unset, .unset, .unset] [])) _
    refine XS.iloadN X0.here hx rfl (hb hby d4_0) rfl ?_
    show Steps p.tables e below (s₁.setTop (mkF m 1 #[.val (.ref r_SPACE), .val (.int 0), .val (.int 6), .val (.int x), .unset, .unset, .unset, .unset] [(.int 0)])) _
    refine XS.istore X0.here hx rfl (hb hby d4_1) rfl (l' := #[.val (.ref r_SPACE), .val (.int 0), .val (.int 6), .val (.int x), .val (.int 0), .unset, .unset, .unset]) rfl ?_
    show Steps p.tables e below (s₁.setTop (mkF m 3 #[.val (.ref r_SPACE), .val (.int 0), .val (.int 6), .val (.int x), .val (.int 0), .unset, .unset, .unset] [])) _
    refine XS.iloadN X0.here hx rfl (hb hby d4_3) rfl ?_
    show Steps p.tables e below (s₁.setTop (mkF m 4 #[.val (.ref r_SPACE), .val (.int 0), .val (.int 6), .val (.int x), .val (.int 0), .unset, .unset, .unset] [(.int 6)])) _
    refine XS.iconst X0.here hx rfl (hb hby d4_4) ?_
    show Steps p.tables e below (s₁.setTop (mkF m 5 #[.val (.ref r_SPACE), .val (.int 0), .val (.int 6), .val (.int x), .val (.int 0), .unset, .unset, .unset] [(.int 1), (.int 6)])) _
    refine XS.isub X0.here hx rfl (hb hby d4_5) rfl ?_
    show Steps p.tables e below (s₁.setTop (mkF m 6 #[.val (.ref r_SPACE), .val (.int 0), .val (.int 6), .val (.int x), .val (.int 0), .unset, .unset, .unset] [(.int ((6 : Int32) - (1 : Int32)))])) _
    rw [(by decide : ((6 : Int32) - (1 : Int32)) = (5 : Int32))]
    show Steps p.tables e below (s₁.setTop (mkF m 6 #[.val (.ref r_SPACE), .val (.int 0), .val (.int 6), .val (.int x), .val (.int 0), .unset, .unset, .unset] [(.int 5)])) _
    refine XS.istore X0.here hx rfl (hb hby d4_6) rfl (l' := #[.val (.ref r_SPACE), .val (.int 0), .val (.int 6), .val (.int x), .val (.int 0), .val (.int 5), .unset, .unset]) rfl ?_
    show Steps p.tables e below (s₁.setTop (mkF m 8 #[.val (.ref r_SPACE), .val (.int 0), .val (.int 6), .val (.int x), .val (.int 0), .val (.int 5), .unset, .unset] [])) _
    refine tnGu r_SPACE (0 : Int32) (6 : Int32) x (0 : Int32) (5 : Int32) (2 : Int32) k_SPACE (6 : Int32) [(.int 9), (.int 10), (.int 12), (.int 13), (.int 32), (.int 32)] (.int (0 : Int32)) (12 : Int32) (1 : Int32) X0 hx hZ hby e0 (by decide) (by decide) V_r_SPACE ⟨by decide, by decide⟩ rfl (own_ngt hhi_x (by decide)) (own_lt hhi_x (by decide)) (by decide) _ ?_
    show Steps p.tables e below (s₁.setTop (mkF m 8 #[.val (.ref r_SPACE), .val (.int 0), .val (.int 6), .val (.int x), .val (.int 0), .val (.int 1), .val (.int 2), .val (.int 12)] [])) _
    refine tnGv r_SPACE (0 : Int32) (6 : Int32) x (0 : Int32) (1 : Int32) (2 : Int32) (12 : Int32) (0 : Int32) k_SPACE (6 : Int32) [(.int 9), (.int 10), (.int 12), (.int 13), (.int 32), (.int 32)] (.int (0 : Int32)) (9 : Int32) (-1 : Int32) X0 hx hZ hby e0 (by decide) (by decide) V_r_SPACE ⟨by decide, by decide⟩ rfl (own_ngt hhi_x (by decide)) (own_lt hhi_x (by decide)) (by decide) _ ?_
    show Steps p.tables e below (s₁.setTop (mkF m 8 #[.val (.ref r_SPACE), .val (.int 0), .val (.int 6), .val (.int x), .val (.int 0), .val (.int (-1)), .val (.int 0), .val (.int 9)] [])) _
    refine XS.iload X0.here hx rfl (hb hby d4_8) rfl ?_
    show Steps p.tables e below (s₁.setTop (mkF m 10 #[.val (.ref r_SPACE), .val (.int 0), .val (.int 6), .val (.int x), .val (.int 0), .val (.int (-1)), .val (.int 0), .val (.int 9)] [(.int 0)])) _
    refine XS.iload X0.here hx rfl (hb hby d4_10) rfl ?_
    show Steps p.tables e below (s₁.setTop (mkF m 12 #[.val (.ref r_SPACE), .val (.int 0), .val (.int 6), .val (.int x), .val (.int 0), .val (.int (-1)), .val (.int 0), .val (.int 9)] [(.int (-1)), (.int 0)])) _
    refine XS.icmpYes X0.here hx rfl (pc0 := 12) (pc' := 66) rfl (hb hby d4_12) rfl (tlt (by decide : (-1 : Int32) < (0 : Int32))).2.2.1 (by decide) (by decide) ?_
    show Steps p.tables e below (s₁.setTop (mkF m 66 #[.val (.ref r_SPACE), .val (.int 0), .val (.int 6), .val (.int x), .val (.int 0), .val (.int (-1)), .val (.int 0), .val (.int 9)] [])) _
    refine XS.iload X0.here hx rfl (hb hby d4_66) rfl ?_
    show Steps p.tables e below (s₁.setTop (mkF m 68 #[.val (.ref r_SPACE), .val (.int 0), .val (.int 6), .val (.int x), .val (.int 0), .val (.int (-1)), .val (.int 0), .val (.int 9)] [(.int 0)])) _
    refine XS.iconst X0.here hx rfl (hb hby d4_68) ?_
    show Steps p.tables e below (s₁.setTop (mkF m 69 #[.val (.ref r_SPACE), .val (.int 0), .val (.int 6), .val (.int x), .val (.int 0), .val (.int (-1)), .val (.int 0), .val (.int 9)] [(.int 1), (.int 0)])) _
    refine XS.iadd X0.here hx rfl (hb hby d4_69) rfl ?_
    show Steps p.tables e below (s₁.setTop (mkF m 70 #[.val (.ref r_SPACE), .val (.int 0), .val (.int 6), .val (.int x), .val (.int 0), .val (.int (-1)), .val (.int 0), .val (.int 9)] [(.int ((0 : Int32) + (1 : Int32)))])) _
    rw [(by decide : ((0 : Int32) + (1 : Int32)) = (1 : Int32))]
    show Steps p.tables e below (s₁.setTop (mkF m 70 #[.val (.ref r_SPACE), .val (.int 0), .val (.int 6), .val (.int x), .val (.int 0), .val (.int (-1)), .val (.int 0), .val (.int 9)] [(.int 1)])) _
    refine XS.ineg X0.here hx rfl (hb hby d4_70) rfl ?_
    show Steps p.tables e below (s₁.setTop (mkF m 71 #[.val (.ref r_SPACE), .val (.int 0), .val (.int 6), .val (.int x), .val (.int 0), .val (.int (-1)), .val (.int 0), .val (.int 9)] [(.int (-(1 : Int32)))])) _
    rw [(by decide : (-(1 : Int32)) = (-1 : Int32))]
    show Steps p.tables e below (s₁.setTop (mkF m 71 #[.val (.ref r_SPACE), .val (.int 0), .val (.int 6), .val (.int x), .val (.int 0), .val (.int (-1)), .val (.int 0), .val (.int 9)] [(.int (-1))])) _
    exact retI X0 hx Bd.returns (hb hby d4_71) hr
  · show Q4_r_SPACE_0_6_x_None_9 Z r_SPACE x k_SPACE h0 n0 _ s₁.heap _
    rw [e0]
    exact ⟨rfl, N0, rfl⟩
def Q3_r_SPACE_x_None_9 (Z : State) (r_SPACE : Addr) (x : Int32) (k_SPACE : ClassId) (h0 : Heap) (n0 : Nat) (v : Option Value) (h : Heap) (L : List Loc) : Prop := v = some (.int (-1)) ∧ Fr n0 L ∧ h = h0
set_option maxRecDepth 65536 in
set_option maxHeartbeats 40000000 in
theorem rm3_r_SPACE_x_None_9 (l : Launch) (Z : State) (a0 : Array Value) (hw : ∀ d ∈ tables_1, d.before a0 Z = true) (ws : List Jvm.Cond) (r_SPACE : Addr) (x : Int32) (k_SPACE : ClassId) (h0 : Heap) (n0 : Nat) (Z0 : n0 ≤ h0.size) (V_r_SPACE : Arv Z h0 r_SPACE k_SPACE .int (6 : Int32) [(.int 9), (.int 10), (.int 12), (.int 13), (.int 32), (.int 32)] (.int (0 : Int32))) (hhi_x : x < (9 : Int32)) :
    MetFree l (⟨"java/util/Arrays", "binarySearch", "([II)I"⟩ : MethodName) (head1 (Jvm.Cond.code (⟨"java/util/Arrays", "binarySearch", "([II)I"⟩ : MethodName) jdk_65_method_57_code 2 (some .int) :: ws) ({ frames := 1, cells := 0, slots := 0, locals := 19 } : Room)) (fun a U => a = #[(.ref r_SPACE), (.int x)] ∧ Z.Warmed39 U.vm ∧ U.heap = h0) (fun _ _ _ _ _ => True) (fun _ U o U' => ∃ v L, o = .returned v ∧ Q3_r_SPACE_x_None_9 Z r_SPACE x k_SPACE h0 n0 v U'.heap L ∧ FrameEnd U o U' L ({ frames := 1, cells := 0, slots := 0, locals := 19 } : Room).cells ({ frames := 1, cells := 0, slots := 0, locals := 19 } : Room).slots) := by
  refine MetFree.of_bodySF (plainFor_of_name pn_3) hisR ?_
  intro p e s m args below meth c s₁ Bd hml0 hP hK
  obtain ⟨rfl, hZ, hh⟩ := hP
  have hx := Bd.exec
  have hby := Bd.bytes
  have hml : c.maxLocals = 2 := hml0
  have hown : s.vm.findClass "java/util/Arrays" = some m.cls := findClass_of_methodNamed Bd.named
  have hnm := (name_of_methodNamed Bd.named Bd.method).1
  have X0 : Stand p l e ({ frames := 1, cells := 0, slots := 0, locals := 19 } : Room) s m #[(.ref r_SPACE), (.int x)] below meth c s₁ [] 0 0 := Stand.of_body Bd
  have e0 : s₁.heap = h0 := by rw [← hh, Bd.state]; rfl
  have N0 := Fr.nil n0
  have pre0 : ∀ t, Steps p.tables e below (s₁.setTop (mkF m 0 #[.val (.ref r_SPACE), .val (.int x)] [])) t → Steps p.tables e below (s₁.setTop (entryFrame m #[(.ref r_SPACE), (.int x)] 2)) t := fun t k => castTop (by first | (simp [entryFrame, mkF, argsToLocals, Value.category]; done) | rfl) k
  obtain ⟨_, _, ⟨T1, L1, k1, n1⟩, -, X1, ⟨Lc1, hQ1, l1, y1, z1⟩, st1⟩ := Jvm.LawKit.callS X0 hx (y := (⟨"java/util/Arrays", "binarySearch0", "([IIII)I"⟩ : MethodName)) hown (mvT hZ (hw _ (List.mem_of_getElem? (i := 19) rfl))) (mvT hZ (hw _ (List.mem_of_getElem? (i := 20) rfl))) (mvT hZ (hw _ (List.mem_of_getElem? (i := 17) rfl))) (mvT hZ (hw _ (List.mem_of_getElem? (i := 21) rfl))) (by decide) (backOf (W := 0) (rm4_r_SPACE_0_6_x_None_9 l Z a0 hw [] r_SPACE x k_SPACE h0 n0 Z0 hhi_x V_r_SPACE) hZ (hw _ (List.mem_of_getElem? (i := 21) rfl)) (hw _ (List.mem_of_getElem? (i := 17) rfl)) (by decide) (by decide)) (g := (mkF m 5 #[.val (.ref r_SPACE), .val (.int x)] [(.int x), (.int 6), (.int 0), (.ref r_SPACE)])) rfl (by rw [hml]; rfl) (argsL := [(.ref r_SPACE), (.int 0), (.int 6), (.int x)]) (rest := []) (lenOf pd___IIII_I rfl) rfl (by show 2 * 0 + _ ≤ _; exact Nat.le_of_eq rfl) (hb hby d3_5) (fun _ _ => ⟨rfl, e0, (by decide : 0 + 0 ≤ _), (by decide : 0 + 0 ≤ _)⟩)
  dsimp only [Pt.U, Pt.locs, Pt.cells, Pt.slots] at X1 l1 y1 z1 st1 hQ1
  subst l1 y1 z1
  obtain ⟨rfl, N1q, e1⟩ := hQ1
  have N1 := Fr.app N0 N1q
  obtain ⟨fs, hr, hrun, hended, hW, hsame⟩ := X1.leave (v := some (.int (-1))) (fun h => by rw [Bd.returns] at h; cases h)
  refine ⟨_, _, pre0 _ ?_, hrun, hended, _, _, rfl, ?_, ⟨_, rfl⟩, hW, hsame.mono (by decide) (by decide)⟩
  · show Steps p.tables e below (s₁.setTop (mkF m 0 #[.val (.ref r_SPACE), .val (.int x)] [])) _
    refine XS.aloadN X0.here hx rfl (hb hby d3_0) rfl rfl ?_
    show Steps p.tables e below (s₁.setTop (mkF m 1 #[.val (.ref r_SPACE), .val (.int x)] [(.ref r_SPACE)])) _
    refine XS.iconst X0.here hx rfl (hb hby d3_1) ?_
    show Steps p.tables e below (s₁.setTop (mkF m 2 #[.val (.ref r_SPACE), .val (.int x)] [(.int 0), (.ref r_SPACE)])) _
    refine XS.aloadN X0.here hx rfl (hb hby d3_2) rfl rfl ?_
    show Steps p.tables e below (s₁.setTop (mkF m 3 #[.val (.ref r_SPACE), .val (.int x)] [(.ref r_SPACE), (.int 0), (.ref r_SPACE)])) _
    refine own_lenz X0 hx hZ e0 V_r_SPACE (g := (mkF m 3 #[.val (.ref r_SPACE), .val (.int x)] [(.ref r_SPACE), (.int 0), (.ref r_SPACE)])) rfl rfl (hb hby d3_3) _ ?_
    show Steps p.tables e below (s₁.setTop (mkF m 4 #[.val (.ref r_SPACE), .val (.int x)] [(.int 6), (.int 0), (.ref r_SPACE)])) _
    refine XS.iloadN X0.here hx rfl (hb hby d3_4) rfl ?_
    show Steps p.tables e below (s₁.setTop (mkF m 5 #[.val (.ref r_SPACE), .val (.int x)] [(.int x), (.int 6), (.int 0), (.ref r_SPACE)])) _
    refine st1 _ ?_
    show Steps p.tables e below (T1.setTop (mkF m 8 #[.val (.ref r_SPACE), .val (.int x)] [(.int (-1))])) _
    exact retI X1 hx Bd.returns (hb hby d3_8) hr
  · show Q3_r_SPACE_x_None_9 Z r_SPACE x k_SPACE h0 n0 _ T1.heap _
    rw [e1]
    exact ⟨rfl, N1, rfl⟩
def Q2_w_SPACE_x_None_9_all_SPACE (Z : State) (w_SPACE : Addr) (x : Int32) (r_SPACE : Addr) (k_SPACE : ClassId) (h0 : Heap) (n0 : Nat) (v : Option Value) (h : Heap) (L : List Loc) : Prop := v = some (.int (own_s x)) ∧ Fr n0 L ∧ h = h0
set_option maxRecDepth 65536 in
set_option maxHeartbeats 40000000 in
theorem rm2_w_SPACE_x_None_9_all_SPACE (l : Launch) (Z : State) (a0 : Array Value) (hw : ∀ d ∈ tables_1, d.before a0 Z = true) (ws : List Jvm.Cond) (w_SPACE : Addr) (x : Int32) (r_SPACE : Addr) (k_SPACE : ClassId) (h0 : Heap) (n0 : Nat) (Z0 : n0 ≤ h0.size) (F_ranges_w_SPACE : Fld Z h0 w_SPACE "com/example/termwell/termwell/core/text/CodePointSet" "ranges" "[I" (.ref r_SPACE)) (V_r_SPACE : Arv Z h0 r_SPACE k_SPACE .int (6 : Int32) [(.int 9), (.int 10), (.int 12), (.int 13), (.int 32), (.int 32)] (.int (0 : Int32))) (hhi_x : x < (9 : Int32)) (hret : (own_s x) = (0 : Int32)) :
    MetFree l (⟨"com/example/termwell/termwell/core/text/CodePointSet", "contains", "(I)Z"⟩ : MethodName) (head1 (Jvm.Cond.code (⟨"com/example/termwell/termwell/core/text/CodePointSet", "contains", "(I)Z"⟩ : MethodName) prog_19_method_4_code 3 (some .boolean) :: ws) ({ frames := 2, cells := 0, slots := 0, locals := 32 } : Room)) (fun a U => a = #[(.ref w_SPACE), (.int x)] ∧ Z.Warmed39 U.vm ∧ U.heap = h0) (fun _ _ _ _ _ => True) (fun _ U o U' => ∃ v L, o = .returned v ∧ Q2_w_SPACE_x_None_9_all_SPACE Z w_SPACE x r_SPACE k_SPACE h0 n0 v U'.heap L ∧ FrameEnd U o U' L ({ frames := 2, cells := 0, slots := 0, locals := 32 } : Room).cells ({ frames := 2, cells := 0, slots := 0, locals := 32 } : Room).slots) := by
  refine MetFree.of_bodySF (plainFor_of_name pn_2) hisR ?_
  intro p e s m args below meth c s₁ Bd hml0 hP hK
  obtain ⟨rfl, hZ, hh⟩ := hP
  have hx := Bd.exec
  have hby := Bd.bytes
  have hml : c.maxLocals = 3 := hml0
  have hown : s.vm.findClass "com/example/termwell/termwell/core/text/CodePointSet" = some m.cls := findClass_of_methodNamed Bd.named
  have hnm := (name_of_methodNamed Bd.named Bd.method).1
  have X0 : Stand p l e ({ frames := 2, cells := 0, slots := 0, locals := 32 } : Room) s m #[(.ref w_SPACE), (.int x)] below meth c s₁ [] 0 0 := Stand.of_body Bd
  have e0 : s₁.heap = h0 := by rw [← hh, Bd.state]; rfl
  have N0 := Fr.nil n0
  have pre0 : ∀ t, Steps p.tables e below (s₁.setTop (mkF m 0 #[.val (.ref w_SPACE), .val (.int x), .unset] [])) t → Steps p.tables e below (s₁.setTop (entryFrame m #[(.ref w_SPACE), (.int x)] 3)) t := fun t k => castTop (by first | (simp [entryFrame, mkF, argsToLocals, Value.category]; done) | rfl) k
  obtain ⟨T1, X1, e1, st1⟩ := getF X0 hx hZ hown (host := "") (Or.inl (hw _ (List.mem_of_getElem? (i := 13) rfl))) Via.refl e0 F_ranges_w_SPACE (g := (mkF m 1 #[.val (.ref w_SPACE), .val (.int x), .unset] [(.ref w_SPACE)])) rfl rfl (hb hby d2_1)
  obtain ⟨_, _, ⟨T2, L2, k2, n2⟩, -, X2, ⟨Lc2, hQ2, l2, y2, z2⟩, st2⟩ := Jvm.LawKit.callS X1 hx (y := (⟨"java/util/Arrays", "binarySearch", "([II)I"⟩ : MethodName)) hown (mvT hZ (hw _ (List.mem_of_getElem? (i := 15) rfl))) (mvT hZ (hw _ (List.mem_of_getElem? (i := 16) rfl))) (mvT hZ (hw _ (List.mem_of_getElem? (i := 17) rfl))) (mvT hZ (hw _ (List.mem_of_getElem? (i := 18) rfl))) (by decide) (backOf (W := 0) (rm3_r_SPACE_x_None_9 l Z a0 hw [] r_SPACE x k_SPACE h0 n0 Z0 V_r_SPACE hhi_x) hZ (hw _ (List.mem_of_getElem? (i := 18) rfl)) (hw _ (List.mem_of_getElem? (i := 17) rfl)) (by decide) (by decide)) (g := (mkF m 5 #[.val (.ref w_SPACE), .val (.int x), .unset] [(.int x), (.ref r_SPACE)])) rfl (by rw [hml]; rfl) (argsL := [(.ref r_SPACE), (.int x)]) (rest := []) (lenOf pd___II_I rfl) rfl (by show 2 * 0 + _ ≤ _; exact Nat.le_of_eq rfl) (hb hby d2_5) (fun _ _ => ⟨rfl, e1, (by decide : 0 + 0 ≤ _), (by decide : 0 + 0 ≤ _)⟩)
  dsimp only [Pt.U, Pt.locs, Pt.cells, Pt.slots] at X2 l2 y2 z2 st2 hQ2
  subst l2 y2 z2
  obtain ⟨rfl, N2q, e2⟩ := hQ2
  have N2 := Fr.app N0 N2q
  obtain ⟨fs, hr, hrun, hended, hW, hsame⟩ := X2.leave (v := some (.int 0)) (fun h => by rw [Bd.returns] at h; cases h)
  refine ⟨_, _, pre0 _ ?_, hrun, hended, _, _, rfl, ?_, ⟨_, rfl⟩, hW, hsame.mono (by decide) (by decide)⟩
  · show Steps p.tables e below (s₁.setTop (mkF m 0 #[.val (.ref w_SPACE), .val (.int x), .unset] [])) _
    refine XS.aloadN X0.here hx rfl (hb hby d2_0) rfl rfl ?_
    show Steps p.tables e below (s₁.setTop (mkF m 1 #[.val (.ref w_SPACE), .val (.int x), .unset] [(.ref w_SPACE)])) _
    refine st1 _ ?_
    show Steps p.tables e below (T1.setTop (mkF m 4 #[.val (.ref w_SPACE), .val (.int x), .unset] [(.ref r_SPACE)])) _
    refine XS.iloadN X1.here hx rfl (hb hby d2_4) rfl ?_
    show Steps p.tables e below (T1.setTop (mkF m 5 #[.val (.ref w_SPACE), .val (.int x), .unset] [(.int x), (.ref r_SPACE)])) _
    refine st2 _ ?_
    show Steps p.tables e below (T2.setTop (mkF m 8 #[.val (.ref w_SPACE), .val (.int x), .unset] [(.int (-1))])) _
    refine XS.istoreN X2.here hx rfl (hb hby d2_8) rfl (l' := #[.val (.ref w_SPACE), .val (.int x), .val (.int (-1))]) rfl ?_
    show Steps p.tables e below (T2.setTop (mkF m 9 #[.val (.ref w_SPACE), .val (.int x), .val (.int (-1))] [])) _
    refine XS.iloadN X2.here hx rfl (hb hby d2_9) rfl ?_
    show Steps p.tables e below (T2.setTop (mkF m 10 #[.val (.ref w_SPACE), .val (.int x), .val (.int (-1))] [(.int (-1))])) _
    refine XS.ifNo X2.here hx rfl (hb hby d2_10) rfl ((if0 _ _).trans (tlt (by decide : (-1 : Int32) < (0 : Int32))).2.1) ?_
    show Steps p.tables e below (T2.setTop (mkF m 13 #[.val (.ref w_SPACE), .val (.int x), .val (.int (-1))] [])) _
    refine XS.iloadN X2.here hx rfl (hb hby d2_13) rfl ?_
    show Steps p.tables e below (T2.setTop (mkF m 14 #[.val (.ref w_SPACE), .val (.int x), .val (.int (-1))] [(.int (-1))])) _
    refine XS.ineg X2.here hx rfl (hb hby d2_14) rfl ?_
    show Steps p.tables e below (T2.setTop (mkF m 15 #[.val (.ref w_SPACE), .val (.int x), .val (.int (-1))] [(.int (-(-1 : Int32)))])) _
    rw [(by decide : (-(-1 : Int32)) = (1 : Int32))]
    show Steps p.tables e below (T2.setTop (mkF m 15 #[.val (.ref w_SPACE), .val (.int x), .val (.int (-1))] [(.int 1)])) _
    refine XS.iconst X2.here hx rfl (hb hby d2_15) ?_
    show Steps p.tables e below (T2.setTop (mkF m 16 #[.val (.ref w_SPACE), .val (.int x), .val (.int (-1))] [(.int 1), (.int 1)])) _
    refine XS.isub X2.here hx rfl (hb hby d2_16) rfl ?_
    show Steps p.tables e below (T2.setTop (mkF m 17 #[.val (.ref w_SPACE), .val (.int x), .val (.int (-1))] [(.int ((1 : Int32) - (1 : Int32)))])) _
    rw [(by decide : ((1 : Int32) - (1 : Int32)) = (0 : Int32))]
    show Steps p.tables e below (T2.setTop (mkF m 17 #[.val (.ref w_SPACE), .val (.int x), .val (.int (-1))] [(.int 0)])) _
    refine XS.iconst X2.here hx rfl (hb hby d2_17) ?_
    show Steps p.tables e below (T2.setTop (mkF m 18 #[.val (.ref w_SPACE), .val (.int x), .val (.int (-1))] [(.int 2), (.int 0)])) _
    refine iremM X2 hx rfl (hb hby d2_18) rfl (by decide) ?_
    show Steps p.tables e below (T2.setTop (mkF m 19 #[.val (.ref w_SPACE), .val (.int x), .val (.int (-1))] [(.int ((0 : Int32) % (2 : Int32)))])) _
    rw [(by decide : ((0 : Int32) % (2 : Int32)) = (0 : Int32))]
    show Steps p.tables e below (T2.setTop (mkF m 19 #[.val (.ref w_SPACE), .val (.int x), .val (.int (-1))] [(.int 0)])) _
    refine XS.iconst X2.here hx rfl (hb hby d2_19) ?_
    show Steps p.tables e below (T2.setTop (mkF m 20 #[.val (.ref w_SPACE), .val (.int x), .val (.int (-1))] [(.int 1), (.int 0)])) _
    refine XS.icmpYes X2.here hx rfl (pc0 := 20) (pc' := 27) rfl (hb hby d2_20) rfl (feq (by decide : ¬ ((0 : Int32) = (1 : Int32)))).2 (by decide) (by decide) ?_
    show Steps p.tables e below (T2.setTop (mkF m 27 #[.val (.ref w_SPACE), .val (.int x), .val (.int (-1))] [])) _
    refine XS.iconst X2.here hx rfl (hb hby d2_27) ?_
    show Steps p.tables e below (T2.setTop (mkF m 28 #[.val (.ref w_SPACE), .val (.int x), .val (.int (-1))] [(.int 0)])) _
    exact retN X2 hx (t := .boolean) Bd.returns (by simp) (hb hby d2_28) hr
  · show Q2_w_SPACE_x_None_9_all_SPACE Z w_SPACE x r_SPACE k_SPACE h0 n0 _ T2.heap _
    rw [e2]
    exact ⟨(by rw [hret]), N2, rfl⟩
def Q4_r_SPACE_0_6_9 (Z : State) (r_SPACE : Addr) (k_SPACE : ClassId) (h0 : Heap) (n0 : Nat) (v : Option Value) (h : Heap) (L : List Loc) : Prop := v = some (.int 0) ∧ Fr n0 L ∧ h = h0
set_option maxRecDepth 65536 in
set_option maxHeartbeats 40000000 in
theorem rm4_r_SPACE_0_6_9 (l : Launch) (Z : State) (a0 : Array Value) (hw : ∀ d ∈ tables_1, d.before a0 Z = true) (ws : List Jvm.Cond) (r_SPACE : Addr) (k_SPACE : ClassId) (h0 : Heap) (n0 : Nat) (Z0 : n0 ≤ h0.size) (V_r_SPACE : Arv Z h0 r_SPACE k_SPACE .int (6 : Int32) [(.int 9), (.int 10), (.int 12), (.int 13), (.int 32), (.int 32)] (.int (0 : Int32))) :
    MetFree l (⟨"java/util/Arrays", "binarySearch0", "([IIII)I"⟩ : MethodName) (head1 (Jvm.Cond.code (⟨"java/util/Arrays", "binarySearch0", "([IIII)I"⟩ : MethodName) jdk_65_method_59_code 8 (some .int) :: ws) ({ frames := 0, cells := 0, slots := 0, locals := 0 } : Room)) (fun a U => a = #[(.ref r_SPACE), (.int 0), (.int 6), (.int 9)] ∧ Z.Warmed39 U.vm ∧ U.heap = h0) (fun _ _ _ _ _ => True) (fun _ U o U' => ∃ v L, o = .returned v ∧ Q4_r_SPACE_0_6_9 Z r_SPACE k_SPACE h0 n0 v U'.heap L ∧ FrameEnd U o U' L ({ frames := 0, cells := 0, slots := 0, locals := 0 } : Room).cells ({ frames := 0, cells := 0, slots := 0, locals := 0 } : Room).slots) := by
  refine MetFree.of_bodySF (plainFor_of_name pn_4) hisR ?_
  intro p e s m args below meth c s₁ Bd hml0 hP hK
  obtain ⟨rfl, hZ, hh⟩ := hP
  have hx := Bd.exec
  have hby := Bd.bytes
  have hml : c.maxLocals = 8 := hml0
  have hown : s.vm.findClass "java/util/Arrays" = some m.cls := findClass_of_methodNamed Bd.named
  have hnm := (name_of_methodNamed Bd.named Bd.method).1
  have X0 : Stand p l e ({ frames := 0, cells := 0, slots := 0, locals := 0 } : Room) s m #[(.ref r_SPACE), (.int 0), (.int 6), (.int 9)] below meth c s₁ [] 0 0 := Stand.of_body Bd
  have e0 : s₁.heap = h0 := by rw [← hh, Bd.state]; rfl
  have N0 := Fr.nil n0
  have pre0 : ∀ t, Steps p.tables e below (s₁.setTop (mkF m 0 #[.val (.ref r_SPACE), .val (.int 0), .val (.int 6), .val (.int 9), .unset, .unset, .unset, .unset] [])) t → Steps p.tables e below (s₁.setTop (entryFrame m #[(.ref r_SPACE), (.int 0), (.int 6), (.int 9)] 8)) t := fun t k => castTop (by first | (simp [entryFrame, mkF, argsToLocals, Value.category]; done) | rfl) k
  obtain ⟨fs, hr, hrun, hended, hW, hsame⟩ := X0.leave (v := some (.int 0)) (fun h => by rw [Bd.returns] at h; cases h)
  refine ⟨_, _, pre0 _ ?_, hrun, hended, _, _, rfl, ?_, ⟨_, rfl⟩, hW, hsame.mono (by decide) (by decide)⟩
  · show Steps p.tables e below (s₁.setTop (mkF m 0 #[.val (.ref r_SPACE), .val (.int 0), .val (.int 6), .val (.int 9), .unset, .unset, .unset, .unset] [])) _
    refine XS.iloadN X0.here hx rfl (hb hby d4_0) rfl ?_
    show Steps p.tables e below (s₁.setTop (mkF m 1 #[.val (.ref r_SPACE), .val (.int 0), .val (.int 6), .val (.int 9), .unset, .unset, .unset, .unset] [(.int 0)])) _
    refine XS.istore X0.here hx rfl (hb hby d4_1) rfl (l' := #[.val (.ref r_SPACE), .val (.int 0), .val (.int 6), .val (.int 9), .val (.int 0), .unset, .unset, .unset]) rfl ?_
    show Steps p.tables e below (s₁.setTop (mkF m 3 #[.val (.ref r_SPACE), .val (.int 0), .val (.int 6), .val (.int 9), .val (.int 0), .unset, .unset, .unset] [])) _
    refine XS.iloadN X0.here hx rfl (hb hby d4_3) rfl ?_
    show Steps p.tables e below (s₁.setTop (mkF m 4 #[.val (.ref r_SPACE), .val (.int 0), .val (.int 6), .val (.int 9), .val (.int 0), .unset, .unset, .unset] [(.int 6)])) _
    refine XS.iconst X0.here hx rfl (hb hby d4_4) ?_
    show Steps p.tables e below (s₁.setTop (mkF m 5 #[.val (.ref r_SPACE), .val (.int 0), .val (.int 6), .val (.int 9), .val (.int 0), .unset, .unset, .unset] [(.int 1), (.int 6)])) _
    refine XS.isub X0.here hx rfl (hb hby d4_5) rfl ?_
    show Steps p.tables e below (s₁.setTop (mkF m 6 #[.val (.ref r_SPACE), .val (.int 0), .val (.int 6), .val (.int 9), .val (.int 0), .unset, .unset, .unset] [(.int ((6 : Int32) - (1 : Int32)))])) _
    rw [(by decide : ((6 : Int32) - (1 : Int32)) = (5 : Int32))]
    show Steps p.tables e below (s₁.setTop (mkF m 6 #[.val (.ref r_SPACE), .val (.int 0), .val (.int 6), .val (.int 9), .val (.int 0), .unset, .unset, .unset] [(.int 5)])) _
    refine XS.istore X0.here hx rfl (hb hby d4_6) rfl (l' := #[.val (.ref r_SPACE), .val (.int 0), .val (.int 6), .val (.int 9), .val (.int 0), .val (.int 5), .unset, .unset]) rfl ?_
    show Steps p.tables e below (s₁.setTop (mkF m 8 #[.val (.ref r_SPACE), .val (.int 0), .val (.int 6), .val (.int 9), .val (.int 0), .val (.int 5), .unset, .unset] [])) _
    refine tnGu r_SPACE (0 : Int32) (6 : Int32) (9 : Int32) (0 : Int32) (5 : Int32) (2 : Int32) k_SPACE (6 : Int32) [(.int 9), (.int 10), (.int 12), (.int 13), (.int 32), (.int 32)] (.int (0 : Int32)) (12 : Int32) (1 : Int32) X0 hx hZ hby e0 (by decide) (by decide) V_r_SPACE ⟨by decide, by decide⟩ rfl (by decide) (by decide) (by decide) _ ?_
    show Steps p.tables e below (s₁.setTop (mkF m 8 #[.val (.ref r_SPACE), .val (.int 0), .val (.int 6), .val (.int 9), .val (.int 0), .val (.int 1), .val (.int 2), .val (.int 12)] [])) _
    refine XS.iload X0.here hx rfl (hb hby d4_8) rfl ?_
    show Steps p.tables e below (s₁.setTop (mkF m 10 #[.val (.ref r_SPACE), .val (.int 0), .val (.int 6), .val (.int 9), .val (.int 0), .val (.int 1), .val (.int 2), .val (.int 12)] [(.int 0)])) _
    refine XS.iload X0.here hx rfl (hb hby d4_10) rfl ?_
    show Steps p.tables e below (s₁.setTop (mkF m 12 #[.val (.ref r_SPACE), .val (.int 0), .val (.int 6), .val (.int 9), .val (.int 0), .val (.int 1), .val (.int 2), .val (.int 12)] [(.int 1), (.int 0)])) _
    refine XS.icmpNo X0.here hx rfl (hb hby d4_12) rfl (flt (by decide : ¬ ((1 : Int32) < (0 : Int32)))).2.2.1 ?_
    show Steps p.tables e below (s₁.setTop (mkF m 15 #[.val (.ref r_SPACE), .val (.int 0), .val (.int 6), .val (.int 9), .val (.int 0), .val (.int 1), .val (.int 2), .val (.int 12)] [])) _
    refine XS.iload X0.here hx rfl (hb hby d4_15) rfl ?_
    show Steps p.tables e below (s₁.setTop (mkF m 17 #[.val (.ref r_SPACE), .val (.int 0), .val (.int 6), .val (.int 9), .val (.int 0), .val (.int 1), .val (.int 2), .val (.int 12)] [(.int 0)])) _
    refine XS.iload X0.here hx rfl (hb hby d4_17) rfl ?_
    show Steps p.tables e below (s₁.setTop (mkF m 19 #[.val (.ref r_SPACE), .val (.int 0), .val (.int 6), .val (.int 9), .val (.int 0), .val (.int 1), .val (.int 2), .val (.int 12)] [(.int 1), (.int 0)])) _
    refine XS.iadd X0.here hx rfl (hb hby d4_19) rfl ?_
    show Steps p.tables e below (s₁.setTop (mkF m 20 #[.val (.ref r_SPACE), .val (.int 0), .val (.int 6), .val (.int 9), .val (.int 0), .val (.int 1), .val (.int 2), .val (.int 12)] [(.int ((0 : Int32) + (1 : Int32)))])) _
    rw [(by decide : ((0 : Int32) + (1 : Int32)) = (1 : Int32))]
    show Steps p.tables e below (s₁.setTop (mkF m 20 #[.val (.ref r_SPACE), .val (.int 0), .val (.int 6), .val (.int 9), .val (.int 0), .val (.int 1), .val (.int 2), .val (.int 12)] [(.int 1)])) _
    refine XS.iconst X0.here hx rfl (hb hby d4_20) ?_
    show Steps p.tables e below (s₁.setTop (mkF m 21 #[.val (.ref r_SPACE), .val (.int 0), .val (.int 6), .val (.int 9), .val (.int 0), .val (.int 1), .val (.int 2), .val (.int 12)] [(.int 1), (.int 1)])) _
    refine XS.iushr X0.here hx rfl (hb hby d4_21) rfl ?_
    show Steps p.tables e below (s₁.setTop (mkF m 22 #[.val (.ref r_SPACE), .val (.int 0), .val (.int 6), .val (.int 9), .val (.int 0), .val (.int 1), .val (.int 2), .val (.int 12)] [(.int (((1 : Int32).toUInt32 >>> ((1 : Int32) &&& 31).toUInt32).toInt32))])) _
    rw [(by decide : (((1 : Int32).toUInt32 >>> ((1 : Int32) &&& 31).toUInt32).toInt32) = (0 : Int32))]
    show Steps p.tables e below (s₁.setTop (mkF m 22 #[.val (.ref r_SPACE), .val (.int 0), .val (.int 6), .val (.int 9), .val (.int 0), .val (.int 1), .val (.int 2), .val (.int 12)] [(.int 0)])) _
    refine XS.istore X0.here hx rfl (hb hby d4_22) rfl (l' := #[.val (.ref r_SPACE), .val (.int 0), .val (.int 6), .val (.int 9), .val (.int 0), .val (.int 1), .val (.int 0), .val (.int 12)]) rfl ?_
    show Steps p.tables e below (s₁.setTop (mkF m 24 #[.val (.ref r_SPACE), .val (.int 0), .val (.int 6), .val (.int 9), .val (.int 0), .val (.int 1), .val (.int 0), .val (.int 12)] [])) _
    refine XS.aloadN X0.here hx rfl (hb hby d4_24) rfl rfl ?_
    show Steps p.tables e below (s₁.setTop (mkF m 25 #[.val (.ref r_SPACE), .val (.int 0), .val (.int 6), .val (.int 9), .val (.int 0), .val (.int 1), .val (.int 0), .val (.int 12)] [(.ref r_SPACE)])) _
    refine XS.iload X0.here hx rfl (hb hby d4_25) rfl ?_
    show Steps p.tables e below (s₁.setTop (mkF m 27 #[.val (.ref r_SPACE), .val (.int 0), .val (.int 6), .val (.int 9), .val (.int 0), .val (.int 1), .val (.int 0), .val (.int 12)] [(.int 0), (.ref r_SPACE)])) _
    refine own_ldI X0 hx hZ e0 V_r_SPACE (j := (0 : Int32)) ⟨by decide, by decide⟩ rfl (g := (mkF m 27 #[.val (.ref r_SPACE), .val (.int 0), .val (.int 6), .val (.int 9), .val (.int 0), .val (.int 1), .val (.int 0), .val (.int 12)] [(.int 0), (.ref r_SPACE)])) rfl rfl (hb hby d4_27) _ ?_
    show Steps p.tables e below (s₁.setTop (mkF m 28 #[.val (.ref r_SPACE), .val (.int 0), .val (.int 6), .val (.int 9), .val (.int 0), .val (.int 1), .val (.int 0), .val (.int 12)] [(.int 9)])) _
    refine XS.istore X0.here hx rfl (hb hby d4_28) rfl (l' := #[.val (.ref r_SPACE), .val (.int 0), .val (.int 6), .val (.int 9), .val (.int 0), .val (.int 1), .val (.int 0), .val (.int 9)]) rfl ?_
    show Steps p.tables e below (s₁.setTop (mkF m 30 #[.val (.ref r_SPACE), .val (.int 0), .val (.int 6), .val (.int 9), .val (.int 0), .val (.int 1), .val (.int 0), .val (.int 9)] [])) _
    refine XS.iload X0.here hx rfl (hb hby d4_30) rfl ?_
    show Steps p.tables e below (s₁.setTop (mkF m 32 #[.val (.ref r_SPACE), .val (.int 0), .val (.int 6), .val (.int 9), .val (.int 0), .val (.int 1), .val (.int 0), .val (.int 9)] [(.int 9)])) _
    refine XS.iloadN X0.here hx rfl (hb hby d4_32) rfl ?_
    show Steps p.tables e below (s₁.setTop (mkF m 33 #[.val (.ref r_SPACE), .val (.int 0), .val (.int 6), .val (.int 9), .val (.int 0), .val (.int 1), .val (.int 0), .val (.int 9)] [(.int 9), (.int 9)])) _
    refine XS.icmpYes X0.here hx rfl (pc0 := 33) (pc' := 45) rfl (hb hby d4_33) rfl (flt (by decide : ¬ ((9 : Int32) < (9 : Int32)))).2.1 (by decide) (by decide) ?_
    show Steps p.tables e below (s₁.setTop (mkF m 45 #[.val (.ref r_SPACE), .val (.int 0), .val (.int 6), .val (.int 9), .val (.int 0), .val (.int 1), .val (.int 0), .val (.int 9)] [])) _
    refine XS.iload X0.here hx rfl (hb hby d4_45) rfl ?_
    show Steps p.tables e below (s₁.setTop (mkF m 47 #[.val (.ref r_SPACE), .val (.int 0), .val (.int 6), .val (.int 9), .val (.int 0), .val (.int 1), .val (.int 0), .val (.int 9)] [(.int 9)])) _
    refine XS.iloadN X0.here hx rfl (hb hby d4_47) rfl ?_
    show Steps p.tables e below (s₁.setTop (mkF m 48 #[.val (.ref r_SPACE), .val (.int 0), .val (.int 6), .val (.int 9), .val (.int 0), .val (.int 1), .val (.int 0), .val (.int 9)] [(.int 9), (.int 9)])) _
    refine XS.icmpYes X0.here hx rfl (pc0 := 48) (pc' := 60) rfl (hb hby d4_48) rfl (flt (by decide : ¬ ((9 : Int32) < (9 : Int32)))).2.2.2 (by decide) (by decide) ?_
    show Steps p.tables e below (s₁.setTop (mkF m 60 #[.val (.ref r_SPACE), .val (.int 0), .val (.int 6), .val (.int 9), .val (.int 0), .val (.int 1), .val (.int 0), .val (.int 9)] [])) _
    refine XS.iload X0.here hx rfl (hb hby d4_60) rfl ?_
    show Steps p.tables e below (s₁.setTop (mkF m 62 #[.val (.ref r_SPACE), .val (.int 0), .val (.int 6), .val (.int 9), .val (.int 0), .val (.int 1), .val (.int 0), .val (.int 9)] [(.int 0)])) _
    exact retI X0 hx Bd.returns (hb hby d4_62) hr
  · show Q4_r_SPACE_0_6_9 Z r_SPACE k_SPACE h0 n0 _ s₁.heap _
    rw [e0]
    exact ⟨rfl, N0, rfl⟩
def Q3_r_SPACE_9 (Z : State) (r_SPACE : Addr) (k_SPACE : ClassId) (h0 : Heap) (n0 : Nat) (v : Option Value) (h : Heap) (L : List Loc) : Prop := v = some (.int 0) ∧ Fr n0 L ∧ h = h0
set_option maxRecDepth 65536 in
set_option maxHeartbeats 40000000 in
theorem rm3_r_SPACE_9 (l : Launch) (Z : State) (a0 : Array Value) (hw : ∀ d ∈ tables_1, d.before a0 Z = true) (ws : List Jvm.Cond) (r_SPACE : Addr) (k_SPACE : ClassId) (h0 : Heap) (n0 : Nat) (Z0 : n0 ≤ h0.size) (V_r_SPACE : Arv Z h0 r_SPACE k_SPACE .int (6 : Int32) [(.int 9), (.int 10), (.int 12), (.int 13), (.int 32), (.int 32)] (.int (0 : Int32))) :
    MetFree l (⟨"java/util/Arrays", "binarySearch", "([II)I"⟩ : MethodName) (head1 (Jvm.Cond.code (⟨"java/util/Arrays", "binarySearch", "([II)I"⟩ : MethodName) jdk_65_method_57_code 2 (some .int) :: ws) ({ frames := 1, cells := 0, slots := 0, locals := 19 } : Room)) (fun a U => a = #[(.ref r_SPACE), (.int 9)] ∧ Z.Warmed39 U.vm ∧ U.heap = h0) (fun _ _ _ _ _ => True) (fun _ U o U' => ∃ v L, o = .returned v ∧ Q3_r_SPACE_9 Z r_SPACE k_SPACE h0 n0 v U'.heap L ∧ FrameEnd U o U' L ({ frames := 1, cells := 0, slots := 0, locals := 19 } : Room).cells ({ frames := 1, cells := 0, slots := 0, locals := 19 } : Room).slots) := by
  refine MetFree.of_bodySF (plainFor_of_name pn_3) hisR ?_
  intro p e s m args below meth c s₁ Bd hml0 hP hK
  obtain ⟨rfl, hZ, hh⟩ := hP
  have hx := Bd.exec
  have hby := Bd.bytes
  have hml : c.maxLocals = 2 := hml0
  have hown : s.vm.findClass "java/util/Arrays" = some m.cls := findClass_of_methodNamed Bd.named
  have hnm := (name_of_methodNamed Bd.named Bd.method).1
  have X0 : Stand p l e ({ frames := 1, cells := 0, slots := 0, locals := 19 } : Room) s m #[(.ref r_SPACE), (.int 9)] below meth c s₁ [] 0 0 := Stand.of_body Bd
  have e0 : s₁.heap = h0 := by rw [← hh, Bd.state]; rfl
  have N0 := Fr.nil n0
  have pre0 : ∀ t, Steps p.tables e below (s₁.setTop (mkF m 0 #[.val (.ref r_SPACE), .val (.int 9)] [])) t → Steps p.tables e below (s₁.setTop (entryFrame m #[(.ref r_SPACE), (.int 9)] 2)) t := fun t k => castTop (by first | (simp [entryFrame, mkF, argsToLocals, Value.category]; done) | rfl) k
  obtain ⟨_, _, ⟨T1, L1, k1, n1⟩, -, X1, ⟨Lc1, hQ1, l1, y1, z1⟩, st1⟩ := Jvm.LawKit.callS X0 hx (y := (⟨"java/util/Arrays", "binarySearch0", "([IIII)I"⟩ : MethodName)) hown (mvT hZ (hw _ (List.mem_of_getElem? (i := 19) rfl))) (mvT hZ (hw _ (List.mem_of_getElem? (i := 20) rfl))) (mvT hZ (hw _ (List.mem_of_getElem? (i := 17) rfl))) (mvT hZ (hw _ (List.mem_of_getElem? (i := 21) rfl))) (by decide) (backOf (W := 0) (rm4_r_SPACE_0_6_9 l Z a0 hw [] r_SPACE k_SPACE h0 n0 Z0 V_r_SPACE) hZ (hw _ (List.mem_of_getElem? (i := 21) rfl)) (hw _ (List.mem_of_getElem? (i := 17) rfl)) (by decide) (by decide)) (g := (mkF m 5 #[.val (.ref r_SPACE), .val (.int 9)] [(.int 9), (.int 6), (.int 0), (.ref r_SPACE)])) rfl (by rw [hml]; rfl) (argsL := [(.ref r_SPACE), (.int 0), (.int 6), (.int 9)]) (rest := []) (lenOf pd___IIII_I rfl) rfl (by show 2 * 0 + _ ≤ _; exact Nat.le_of_eq rfl) (hb hby d3_5) (fun _ _ => ⟨rfl, e0, (by decide : 0 + 0 ≤ _), (by decide : 0 + 0 ≤ _)⟩)
  dsimp only [Pt.U, Pt.locs, Pt.cells, Pt.slots] at X1 l1 y1 z1 st1 hQ1
  subst l1 y1 z1
  obtain ⟨rfl, N1q, e1⟩ := hQ1
  have N1 := Fr.app N0 N1q
  obtain ⟨fs, hr, hrun, hended, hW, hsame⟩ := X1.leave (v := some (.int 0)) (fun h => by rw [Bd.returns] at h; cases h)
  refine ⟨_, _, pre0 _ ?_, hrun, hended, _, _, rfl, ?_, ⟨_, rfl⟩, hW, hsame.mono (by decide) (by decide)⟩
  · show Steps p.tables e below (s₁.setTop (mkF m 0 #[.val (.ref r_SPACE), .val (.int 9)] [])) _
    refine XS.aloadN X0.here hx rfl (hb hby d3_0) rfl rfl ?_
    show Steps p.tables e below (s₁.setTop (mkF m 1 #[.val (.ref r_SPACE), .val (.int 9)] [(.ref r_SPACE)])) _
    refine XS.iconst X0.here hx rfl (hb hby d3_1) ?_
    show Steps p.tables e below (s₁.setTop (mkF m 2 #[.val (.ref r_SPACE), .val (.int 9)] [(.int 0), (.ref r_SPACE)])) _
    refine XS.aloadN X0.here hx rfl (hb hby d3_2) rfl rfl ?_
    show Steps p.tables e below (s₁.setTop (mkF m 3 #[.val (.ref r_SPACE), .val (.int 9)] [(.ref r_SPACE), (.int 0), (.ref r_SPACE)])) _
    refine own_lenz X0 hx hZ e0 V_r_SPACE (g := (mkF m 3 #[.val (.ref r_SPACE), .val (.int 9)] [(.ref r_SPACE), (.int 0), (.ref r_SPACE)])) rfl rfl (hb hby d3_3) _ ?_
    show Steps p.tables e below (s₁.setTop (mkF m 4 #[.val (.ref r_SPACE), .val (.int 9)] [(.int 6), (.int 0), (.ref r_SPACE)])) _
    refine XS.iloadN X0.here hx rfl (hb hby d3_4) rfl ?_
    show Steps p.tables e below (s₁.setTop (mkF m 5 #[.val (.ref r_SPACE), .val (.int 9)] [(.int 9), (.int 6), (.int 0), (.ref r_SPACE)])) _
    refine st1 _ ?_
    show Steps p.tables e below (T1.setTop (mkF m 8 #[.val (.ref r_SPACE), .val (.int 9)] [(.int 0)])) _
    exact retI X1 hx Bd.returns (hb hby d3_8) hr
  · show Q3_r_SPACE_9 Z r_SPACE k_SPACE h0 n0 _ T1.heap _
    rw [e1]
    exact ⟨rfl, N1, rfl⟩
def Q2_w_SPACE_9_all_SPACE (Z : State) (w_SPACE : Addr) (r_SPACE : Addr) (k_SPACE : ClassId) (h0 : Heap) (n0 : Nat) (v : Option Value) (h : Heap) (L : List Loc) : Prop := v = some (.int (own_s (9 : Int32))) ∧ Fr n0 L ∧ h = h0
set_option maxRecDepth 65536 in
set_option maxHeartbeats 40000000 in
theorem rm2_w_SPACE_9_all_SPACE (l : Launch) (Z : State) (a0 : Array Value) (hw : ∀ d ∈ tables_1, d.before a0 Z = true) (ws : List Jvm.Cond) (w_SPACE : Addr) (r_SPACE : Addr) (k_SPACE : ClassId) (h0 : Heap) (n0 : Nat) (Z0 : n0 ≤ h0.size) (F_ranges_w_SPACE : Fld Z h0 w_SPACE "com/example/termwell/termwell/core/text/CodePointSet" "ranges" "[I" (.ref r_SPACE)) (V_r_SPACE : Arv Z h0 r_SPACE k_SPACE .int (6 : Int32) [(.int 9), (.int 10), (.int 12), (.int 13), (.int 32), (.int 32)] (.int (0 : Int32))) (hret : (own_s (9 : Int32)) = (1 : Int32)) :
    MetFree l (⟨"com/example/termwell/termwell/core/text/CodePointSet", "contains", "(I)Z"⟩ : MethodName) (head1 (Jvm.Cond.code (⟨"com/example/termwell/termwell/core/text/CodePointSet", "contains", "(I)Z"⟩ : MethodName) prog_19_method_4_code 3 (some .boolean) :: ws) ({ frames := 2, cells := 0, slots := 0, locals := 32 } : Room)) (fun a U => a = #[(.ref w_SPACE), (.int 9)] ∧ Z.Warmed39 U.vm ∧ U.heap = h0) (fun _ _ _ _ _ => True) (fun _ U o U' => ∃ v L, o = .returned v ∧ Q2_w_SPACE_9_all_SPACE Z w_SPACE r_SPACE k_SPACE h0 n0 v U'.heap L ∧ FrameEnd U o U' L ({ frames := 2, cells := 0, slots := 0, locals := 32 } : Room).cells ({ frames := 2, cells := 0, slots := 0, locals := 32 } : Room).slots) := by
  refine MetFree.of_bodySF (plainFor_of_name pn_2) hisR ?_
  intro p e s m args below meth c s₁ Bd hml0 hP hK
  obtain ⟨rfl, hZ, hh⟩ := hP
  have hx := Bd.exec
  have hby := Bd.bytes
  have hml : c.maxLocals = 3 := hml0
  have hown : s.vm.findClass "com/example/termwell/termwell/core/text/CodePointSet" = some m.cls := findClass_of_methodNamed Bd.named
  have hnm := (name_of_methodNamed Bd.named Bd.method).1
  have X0 : Stand p l e ({ frames := 2, cells := 0, slots := 0, locals := 32 } : Room) s m #[(.ref w_SPACE), (.int 9)] below meth c s₁ [] 0 0 := Stand.of_body Bd
  have e0 : s₁.heap = h0 := by rw [← hh, Bd.state]; rfl
  have N0 := Fr.nil n0
  have pre0 : ∀ t, Steps p.tables e below (s₁.setTop (mkF m 0 #[.val (.ref w_SPACE), .val (.int 9), .unset] [])) t → Steps p.tables e below (s₁.setTop (entryFrame m #[(.ref w_SPACE), (.int 9)] 3)) t := fun t k => castTop (by first | (simp [entryFrame, mkF, argsToLocals, Value.category]; done) | rfl) k
  obtain ⟨T1, X1, e1, st1⟩ := getF X0 hx hZ hown (host := "") (Or.inl (hw _ (List.mem_of_getElem? (i := 13) rfl))) Via.refl e0 F_ranges_w_SPACE (g := (mkF m 1 #[.val (.ref w_SPACE), .val (.int 9), .unset] [(.ref w_SPACE)])) rfl rfl (hb hby d2_1)
  obtain ⟨_, _, ⟨T2, L2, k2, n2⟩, -, X2, ⟨Lc2, hQ2, l2, y2, z2⟩, st2⟩ := Jvm.LawKit.callS X1 hx (y := (⟨"java/util/Arrays", "binarySearch", "([II)I"⟩ : MethodName)) hown (mvT hZ (hw _ (List.mem_of_getElem? (i := 15) rfl))) (mvT hZ (hw _ (List.mem_of_getElem? (i := 16) rfl))) (mvT hZ (hw _ (List.mem_of_getElem? (i := 17) rfl))) (mvT hZ (hw _ (List.mem_of_getElem? (i := 18) rfl))) (by decide) (backOf (W := 0) (rm3_r_SPACE_9 l Z a0 hw [] r_SPACE k_SPACE h0 n0 Z0 V_r_SPACE) hZ (hw _ (List.mem_of_getElem? (i := 18) rfl)) (hw _ (List.mem_of_getElem? (i := 17) rfl)) (by decide) (by decide)) (g := (mkF m 5 #[.val (.ref w_SPACE), .val (.int 9), .unset] [(.int 9), (.ref r_SPACE)])) rfl (by rw [hml]; rfl) (argsL := [(.ref r_SPACE), (.int 9)]) (rest := []) (lenOf pd___II_I rfl) rfl (by show 2 * 0 + _ ≤ _; exact Nat.le_of_eq rfl) (hb hby d2_5) (fun _ _ => ⟨rfl, e1, (by decide : 0 + 0 ≤ _), (by decide : 0 + 0 ≤ _)⟩)
  dsimp only [Pt.U, Pt.locs, Pt.cells, Pt.slots] at X2 l2 y2 z2 st2 hQ2
  subst l2 y2 z2
  obtain ⟨rfl, N2q, e2⟩ := hQ2
  have N2 := Fr.app N0 N2q
  obtain ⟨fs, hr, hrun, hended, hW, hsame⟩ := X2.leave (v := some (.int 1)) (fun h => by rw [Bd.returns] at h; cases h)
  refine ⟨_, _, pre0 _ ?_, hrun, hended, _, _, rfl, ?_, ⟨_, rfl⟩, hW, hsame.mono (by decide) (by decide)⟩
  · show Steps p.tables e below (s₁.setTop (mkF m 0 #[.val (.ref w_SPACE), .val (.int 9), .unset] [])) _
    refine XS.aloadN X0.here hx rfl (hb hby d2_0) rfl rfl ?_
    show Steps p.tables e below (s₁.setTop (mkF m 1 #[.val (.ref w_SPACE), .val (.int 9), .unset] [(.ref w_SPACE)])) _
    refine st1 _ ?_
    show Steps p.tables e below (T1.setTop (mkF m 4 #[.val (.ref w_SPACE), .val (.int 9), .unset] [(.ref r_SPACE)])) _
    refine XS.iloadN X1.here hx rfl (hb hby d2_4) rfl ?_
    show Steps p.tables e below (T1.setTop (mkF m 5 #[.val (.ref w_SPACE), .val (.int 9), .unset] [(.int 9), (.ref r_SPACE)])) _
    refine st2 _ ?_
    show Steps p.tables e below (T2.setTop (mkF m 8 #[.val (.ref w_SPACE), .val (.int 9), .unset] [(.int 0)])) _
    refine XS.istoreN X2.here hx rfl (hb hby d2_8) rfl (l' := #[.val (.ref w_SPACE), .val (.int 9), .val (.int 0)]) rfl ?_
    show Steps p.tables e below (T2.setTop (mkF m 9 #[.val (.ref w_SPACE), .val (.int 9), .val (.int 0)] [])) _
    refine XS.iloadN X2.here hx rfl (hb hby d2_9) rfl ?_
    show Steps p.tables e below (T2.setTop (mkF m 10 #[.val (.ref w_SPACE), .val (.int 9), .val (.int 0)] [(.int 0)])) _
    refine XS.ifYes X2.here hx rfl (pc0 := 10) (pc' := 23) rfl (hb hby d2_10) rfl ((if0 _ _).trans (flt (by decide : ¬ ((0 : Int32) < (0 : Int32)))).2.1) (by decide) (by decide) ?_
    show Steps p.tables e below (T2.setTop (mkF m 23 #[.val (.ref w_SPACE), .val (.int 9), .val (.int 0)] [])) _
    refine XS.iconst X2.here hx rfl (hb hby d2_23) ?_
    show Steps p.tables e below (T2.setTop (mkF m 24 #[.val (.ref w_SPACE), .val (.int 9), .val (.int 0)] [(.int 1)])) _
    refine XS.goto X2.here hx rfl (pc0 := 24) (pc' := 28) rfl (hb hby d2_24) (by decide) (by decide) ?_
    show Steps p.tables e below (T2.setTop (mkF m 28 #[.val (.ref w_SPACE), .val (.int 9), .val (.int 0)] [(.int 1)])) _
    exact retN X2 hx (t := .boolean) Bd.returns (by simp) (hb hby d2_28) hr
  · show Q2_w_SPACE_9_all_SPACE Z w_SPACE r_SPACE k_SPACE h0 n0 _ T2.heap _
    rw [e2]
    exact ⟨(by rw [hret]), N2, rfl⟩
def Q4_r_SPACE_0_6_10 (Z : State) (r_SPACE : Addr) (k_SPACE : ClassId) (h0 : Heap) (n0 : Nat) (v : Option Value) (h : Heap) (L : List Loc) : Prop := v = some (.int 1) ∧ Fr n0 L ∧ h = h0
set_option maxRecDepth 65536 in
set_option maxHeartbeats 40000000 in
theorem rm4_r_SPACE_0_6_10 (l : Launch) (Z : State) (a0 : Array Value) (hw : ∀ d ∈ tables_1, d.before a0 Z = true) (ws : List Jvm.Cond) (r_SPACE : Addr) (k_SPACE : ClassId) (h0 : Heap) (n0 : Nat) (Z0 : n0 ≤ h0.size) (V_r_SPACE : Arv Z h0 r_SPACE k_SPACE .int (6 : Int32) [(.int 9), (.int 10), (.int 12), (.int 13), (.int 32), (.int 32)] (.int (0 : Int32))) :
    MetFree l (⟨"java/util/Arrays", "binarySearch0", "([IIII)I"⟩ : MethodName) (head1 (Jvm.Cond.code (⟨"java/util/Arrays", "binarySearch0", "([IIII)I"⟩ : MethodName) jdk_65_method_59_code 8 (some .int) :: ws) ({ frames := 0, cells := 0, slots := 0, locals := 0 } : Room)) (fun a U => a = #[(.ref r_SPACE), (.int 0), (.int 6), (.int 10)] ∧ Z.Warmed39 U.vm ∧ U.heap = h0) (fun _ _ _ _ _ => True) (fun _ U o U' => ∃ v L, o = .returned v ∧ Q4_r_SPACE_0_6_10 Z r_SPACE k_SPACE h0 n0 v U'.heap L ∧ FrameEnd U o U' L ({ frames := 0, cells := 0, slots := 0, locals := 0 } : Room).cells ({ frames := 0, cells := 0, slots := 0, locals := 0 } : Room).slots) := by
  refine MetFree.of_bodySF (plainFor_of_name pn_4) hisR ?_
  intro p e s m args below meth c s₁ Bd hml0 hP hK
  obtain ⟨rfl, hZ, hh⟩ := hP
  have hx := Bd.exec
  have hby := Bd.bytes
  have hml : c.maxLocals = 8 := hml0
  have hown : s.vm.findClass "java/util/Arrays" = some m.cls := findClass_of_methodNamed Bd.named
  have hnm := (name_of_methodNamed Bd.named Bd.method).1
  have X0 : Stand p l e ({ frames := 0, cells := 0, slots := 0, locals := 0 } : Room) s m #[(.ref r_SPACE), (.int 0), (.int 6), (.int 10)] below meth c s₁ [] 0 0 := Stand.of_body Bd
  have e0 : s₁.heap = h0 := by rw [← hh, Bd.state]; rfl
  have N0 := Fr.nil n0
  have pre0 : ∀ t, Steps p.tables e below (s₁.setTop (mkF m 0 #[.val (.ref r_SPACE), .val (.int 0), .val (.int 6), .val (.int 10), .unset, .unset, .unset, .unset] [])) t → Steps p.tables e below (s₁.setTop (entryFrame m #[(.ref r_SPACE), (.int 0), (.int 6), (.int 10)] 8)) t := fun t k => castTop (by first | (simp [entryFrame, mkF, argsToLocals, Value.category]; done) | rfl) k
  obtain ⟨fs, hr, hrun, hended, hW, hsame⟩ := X0.leave (v := some (.int 1)) (fun h => by rw [Bd.returns] at h; cases h)
  refine ⟨_, _, pre0 _ ?_, hrun, hended, _, _, rfl, ?_, ⟨_, rfl⟩, hW, hsame.mono (by decide) (by decide)⟩
  · show Steps p.tables e below (s₁.setTop (mkF m 0 #[.val (.ref r_SPACE), .val (.int 0), .val (.int 6), .val (.int 10), .unset, .unset, .unset, .unset] [])) _
    refine XS.iloadN X0.here hx rfl (hb hby d4_0) rfl ?_
    show Steps p.tables e below (s₁.setTop (mkF m 1 #[.val (.ref r_SPACE), .val (.int 0), .val (.int 6), .val (.int 10), .unset, .unset, .unset, .unset] [(.int 0)])) _
    refine XS.istore X0.here hx rfl (hb hby d4_1) rfl (l' := #[.val (.ref r_SPACE), .val (.int 0), .val (.int 6), .val (.int 10), .val (.int 0), .unset, .unset, .unset]) rfl ?_
    show Steps p.tables e below (s₁.setTop (mkF m 3 #[.val (.ref r_SPACE), .val (.int 0), .val (.int 6), .val (.int 10), .val (.int 0), .unset, .unset, .unset] [])) _
    refine XS.iloadN X0.here hx rfl (hb hby d4_3) rfl ?_
    show Steps p.tables e below (s₁.setTop (mkF m 4 #[.val (.ref r_SPACE), .val (.int 0), .val (.int 6), .val (.int 10), .val (.int 0), .unset, .unset, .unset] [(.int 6)])) _
    refine XS.iconst X0.here hx rfl (hb hby d4_4) ?_
    show Steps p.tables e below (s₁.setTop (mkF m 5 #[.val (.ref r_SPACE), .val (.int 0), .val (.int 6), .val (.int 10), .val (.int 0), .unset, .unset, .unset] [(.int 1), (.int 6)])) _
    refine XS.isub X0.here hx rfl (hb hby d4_5) rfl ?_
    show Steps p.tables e below (s₁.setTop (mkF m 6 #[.val (.ref r_SPACE), .val (.int 0), .val (.int 6), .val (.int 10), .val (.int 0), .unset, .unset, .unset] [(.int ((6 : Int32) - (1 : Int32)))])) _
    rw [(by decide : ((6 : Int32) - (1 : Int32)) = (5 : Int32))]
    show Steps p.tables e below (s₁.setTop (mkF m 6 #[.val (.ref r_SPACE), .val (.int 0), .val (.int 6), .val (.int 10), .val (.int 0), .unset, .unset, .unset] [(.int 5)])) _
    refine XS.istore X0.here hx rfl (hb hby d4_6) rfl (l' := #[.val (.ref r_SPACE), .val (.int 0), .val (.int 6), .val (.int 10), .val (.int 0), .val (.int 5), .unset, .unset]) rfl ?_
    show Steps p.tables e below (s₁.setTop (mkF m 8 #[.val (.ref r_SPACE), .val (.int 0), .val (.int 6), .val (.int 10), .val (.int 0), .val (.int 5), .unset, .unset] [])) _
    refine tnGu r_SPACE (0 : Int32) (6 : Int32) (10 : Int32) (0 : Int32) (5 : Int32) (2 : Int32) k_SPACE (6 : Int32) [(.int 9), (.int 10), (.int 12), (.int 13), (.int 32), (.int 32)] (.int (0 : Int32)) (12 : Int32) (1 : Int32) X0 hx hZ hby e0 (by decide) (by decide) V_r_SPACE ⟨by decide, by decide⟩ rfl (by decide) (by decide) (by decide) _ ?_
    show Steps p.tables e below (s₁.setTop (mkF m 8 #[.val (.ref r_SPACE), .val (.int 0), .val (.int 6), .val (.int 10), .val (.int 0), .val (.int 1), .val (.int 2), .val (.int 12)] [])) _
    refine tnLv r_SPACE (0 : Int32) (6 : Int32) (10 : Int32) (0 : Int32) (1 : Int32) (2 : Int32) (12 : Int32) (0 : Int32) k_SPACE (6 : Int32) [(.int 9), (.int 10), (.int 12), (.int 13), (.int 32), (.int 32)] (.int (0 : Int32)) (9 : Int32) (1 : Int32) X0 hx hZ hby e0 (by decide) (by decide) V_r_SPACE ⟨by decide, by decide⟩ rfl (by decide) (by decide) _ ?_
    show Steps p.tables e below (s₁.setTop (mkF m 8 #[.val (.ref r_SPACE), .val (.int 0), .val (.int 6), .val (.int 10), .val (.int 1), .val (.int 1), .val (.int 0), .val (.int 9)] [])) _
    refine XS.iload X0.here hx rfl (hb hby d4_8) rfl ?_
    show Steps p.tables e below (s₁.setTop (mkF m 10 #[.val (.ref r_SPACE), .val (.int 0), .val (.int 6), .val (.int 10), .val (.int 1), .val (.int 1), .val (.int 0), .val (.int 9)] [(.int 1)])) _
    refine XS.iload X0.here hx rfl (hb hby d4_10) rfl ?_
    show Steps p.tables e below (s₁.setTop (mkF m 12 #[.val (.ref r_SPACE), .val (.int 0), .val (.int 6), .val (.int 10), .val (.int 1), .val (.int 1), .val (.int 0), .val (.int 9)] [(.int 1), (.int 1)])) _
    refine XS.icmpNo X0.here hx rfl (hb hby d4_12) rfl (flt (by decide : ¬ ((1 : Int32) < (1 : Int32)))).2.2.1 ?_
    show Steps p.tables e below (s₁.setTop (mkF m 15 #[.val (.ref r_SPACE), .val (.int 0), .val (.int 6), .val (.int 10), .val (.int 1), .val (.int 1), .val (.int 0), .val (.int 9)] [])) _
    refine XS.iload X0.here hx rfl (hb hby d4_15) rfl ?_
    show Steps p.tables e below (s₁.setTop (mkF m 17 #[.val (.ref r_SPACE), .val (.int 0), .val (.int 6), .val (.int 10), .val (.int 1), .val (.int 1), .val (.int 0), .val (.int 9)] [(.int 1)])) _
    refine XS.iload X0.here hx rfl (hb hby d4_17) rfl ?_
    show Steps p.tables e below (s₁.setTop (mkF m 19 #[.val (.ref r_SPACE), .val (.int 0), .val (.int 6), .val (.int 10), .val (.int 1), .val (.int 1), .val (.int 0), .val (.int 9)] [(.int 1), (.int 1)])) _
    refine XS.iadd X0.here hx rfl (hb hby d4_19) rfl ?_
    show Steps p.tables e below (s₁.setTop (mkF m 20 #[.val (.ref r_SPACE), .val (.int 0), .val (.int 6), .val (.int 10), .val (.int 1), .val (.int 1), .val (.int 0), .val (.int 9)] [(.int ((1 : Int32) + (1 : Int32)))])) _
    rw [(by decide : ((1 : Int32) + (1 : Int32)) = (2 : Int32))]
    show Steps p.tables e below (s₁.setTop (mkF m 20 #[.val (.ref r_SPACE), .val (.int 0), .val (.int 6), .val (.int 10), .val (.int 1), .val (.int 1), .val (.int 0), .val (.int 9)] [(.int 2)])) _
    refine XS.iconst X0.here hx rfl (hb hby d4_20) ?_
    show Steps p.tables e below (s₁.setTop (mkF m 21 #[.val (.ref r_SPACE), .val (.int 0), .val (.int 6), .val (.int 10), .val (.int 1), .val (.int 1), .val (.int 0), .val (.int 9)] [(.int 1), (.int 2)])) _
    refine XS.iushr X0.here hx rfl (hb hby d4_21) rfl ?_
    show Steps p.tables e below (s₁.setTop (mkF m 22 #[.val (.ref r_SPACE), .val (.int 0), .val (.int 6), .val (.int 10), .val (.int 1), .val (.int 1), .val (.int 0), .val (.int 9)] [(.int (((2 : Int32).toUInt32 >>> ((1 : Int32) &&& 31).toUInt32).toInt32))])) _
    rw [(by decide : (((2 : Int32).toUInt32 >>> ((1 : Int32) &&& 31).toUInt32).toInt32) = (1 : Int32))]
    show Steps p.tables e below (s₁.setTop (mkF m 22 #[.val (.ref r_SPACE), .val (.int 0), .val (.int 6), .val (.int 10), .val (.int 1), .val (.int 1), .val (.int 0), .val (.int 9)] [(.int 1)])) _
    refine XS.istore X0.here hx rfl (hb hby d4_22) rfl (l' := #[.val (.ref r_SPACE), .val (.int 0), .val (.int 6), .val (.int 10), .val (.int 1), .val (.int 1), .val (.int 1), .val (.int 9)]) rfl ?_
    show Steps p.tables e below (s₁.setTop (mkF m 24 #[.val (.ref r_SPACE), .val (.int 0), .val (.int 6), .val (.int 10), .val (.int 1), .val (.int 1), .val (.int 1), .val (.int 9)] [])) _
    refine XS.aloadN X0.here hx rfl (hb hby d4_24) rfl rfl ?_
    show Steps p.tables e below (s₁.setTop (mkF m 25 #[.val (.ref r_SPACE), .val (.int 0), .val (.int 6), .val (.int 10), .val (.int 1), .val (.int 1), .val (.int 1), .val (.int 9)] [(.ref r_SPACE)])) _
    refine XS.iload X0.here hx rfl (hb hby d4_25) rfl ?_
    show Steps p.tables e below (s₁.setTop (mkF m 27 #[.val (.ref r_SPACE), .val (.int 0), .val (.int 6), .val (.int 10), .val (.int 1), .val (.int 1), .val (.int 1), .val (.int 9)] [(.int 1), (.ref r_SPACE)])) _
    refine own_ldI X0 hx hZ e0 V_r_SPACE (j := (1 : Int32)) ⟨by decide, by decide⟩ rfl (g := (mkF m 27 #[.val (.ref r_SPACE), .val (.int 0), .val (.int 6), .val (.int 10), .val (.int 1), .val (.int 1), .val (.int 1), .val (.int 9)] [(.int 1), (.ref r_SPACE)])) rfl rfl (hb hby d4_27) _ ?_
    show Steps p.tables e below (s₁.setTop (mkF m 28 #[.val (.ref r_SPACE), .val (.int 0), .val (.int 6), .val (.int 10), .val (.int 1), .val (.int 1), .val (.int 1), .val (.int 9)] [(.int 10)])) _
    refine XS.istore X0.here hx rfl (hb hby d4_28) rfl (l' := #[.val (.ref r_SPACE), .val (.int 0), .val (.int 6), .val (.int 10), .val (.int 1), .val (.int 1), .val (.int 1), .val (.int 10)]) rfl ?_
    show Steps p.tables e below (s₁.setTop (mkF m 30 #[.val (.ref r_SPACE), .val (.int 0), .val (.int 6), .val (.int 10), .val (.int 1), .val (.int 1), .val (.int 1), .val (.int 10)] [])) _
    refine XS.iload X0.here hx rfl (hb hby d4_30) rfl ?_
    show Steps p.tables e below (s₁.setTop (mkF m 32 #[.val (.ref r_SPACE), .val (.int 0), .val (.int 6), .val (.int 10), .val (.int 1), .val (.int 1), .val (.int 1), .val (.int 10)] [(.int 10)])) _
    refine XS.iloadN X0.here hx rfl (hb hby d4_32) rfl ?_
    show Steps p.tables e below (s₁.setTop (mkF m 33 #[.val (.ref r_SPACE), .val (.int 0), .val (.int 6), .val (.int 10), .val (.int 1), .val (.int 1), .val (.int 1), .val (.int 10)] [(.int 10), (.int 10)])) _
    refine XS.icmpYes X0.here hx rfl (pc0 := 33) (pc' := 45) rfl (hb hby d4_33) rfl (flt (by decide : ¬ ((10 : Int32) < (10 : Int32)))).2.1 (by decide) (by decide) ?_
    show Steps p.tables e below (s₁.setTop (mkF m 45 #[.val (.ref r_SPACE), .val (.int 0), .val (.int 6), .val (.int 10), .val (.int 1), .val (.int 1), .val (.int 1), .val (.int 10)] [])) _
    refine XS.iload X0.here hx rfl (hb hby d4_45) rfl ?_
    show Steps p.tables e below (s₁.setTop (mkF m 47 #[.val (.ref r_SPACE), .val (.int 0), .val (.int 6), .val (.int 10), .val (.int 1), .val (.int 1), .val (.int 1), .val (.int 10)] [(.int 10)])) _
    refine XS.iloadN X0.here hx rfl (hb hby d4_47) rfl ?_
    show Steps p.tables e below (s₁.setTop (mkF m 48 #[.val (.ref r_SPACE), .val (.int 0), .val (.int 6), .val (.int 10), .val (.int 1), .val (.int 1), .val (.int 1), .val (.int 10)] [(.int 10), (.int 10)])) _
    refine XS.icmpYes X0.here hx rfl (pc0 := 48) (pc' := 60) rfl (hb hby d4_48) rfl (flt (by decide : ¬ ((10 : Int32) < (10 : Int32)))).2.2.2 (by decide) (by decide) ?_
    show Steps p.tables e below (s₁.setTop (mkF m 60 #[.val (.ref r_SPACE), .val (.int 0), .val (.int 6), .val (.int 10), .val (.int 1), .val (.int 1), .val (.int 1), .val (.int 10)] [])) _
    refine XS.iload X0.here hx rfl (hb hby d4_60) rfl ?_
    show Steps p.tables e below (s₁.setTop (mkF m 62 #[.val (.ref r_SPACE), .val (.int 0), .val (.int 6), .val (.int 10), .val (.int 1), .val (.int 1), .val (.int 1), .val (.int 10)] [(.int 1)])) _
    exact retI X0 hx Bd.returns (hb hby d4_62) hr
  · show Q4_r_SPACE_0_6_10 Z r_SPACE k_SPACE h0 n0 _ s₁.heap _
    rw [e0]
    exact ⟨rfl, N0, rfl⟩
def Q3_r_SPACE_10 (Z : State) (r_SPACE : Addr) (k_SPACE : ClassId) (h0 : Heap) (n0 : Nat) (v : Option Value) (h : Heap) (L : List Loc) : Prop := v = some (.int 1) ∧ Fr n0 L ∧ h = h0
set_option maxRecDepth 65536 in
set_option maxHeartbeats 40000000 in
theorem rm3_r_SPACE_10 (l : Launch) (Z : State) (a0 : Array Value) (hw : ∀ d ∈ tables_1, d.before a0 Z = true) (ws : List Jvm.Cond) (r_SPACE : Addr) (k_SPACE : ClassId) (h0 : Heap) (n0 : Nat) (Z0 : n0 ≤ h0.size) (V_r_SPACE : Arv Z h0 r_SPACE k_SPACE .int (6 : Int32) [(.int 9), (.int 10), (.int 12), (.int 13), (.int 32), (.int 32)] (.int (0 : Int32))) :
    MetFree l (⟨"java/util/Arrays", "binarySearch", "([II)I"⟩ : MethodName) (head1 (Jvm.Cond.code (⟨"java/util/Arrays", "binarySearch", "([II)I"⟩ : MethodName) jdk_65_method_57_code 2 (some .int) :: ws) ({ frames := 1, cells := 0, slots := 0, locals := 19 } : Room)) (fun a U => a = #[(.ref r_SPACE), (.int 10)] ∧ Z.Warmed39 U.vm ∧ U.heap = h0) (fun _ _ _ _ _ => True) (fun _ U o U' => ∃ v L, o = .returned v ∧ Q3_r_SPACE_10 Z r_SPACE k_SPACE h0 n0 v U'.heap L ∧ FrameEnd U o U' L ({ frames := 1, cells := 0, slots := 0, locals := 19 } : Room).cells ({ frames := 1, cells := 0, slots := 0, locals := 19 } : Room).slots) := by
  refine MetFree.of_bodySF (plainFor_of_name pn_3) hisR ?_
  intro p e s m args below meth c s₁ Bd hml0 hP hK
  obtain ⟨rfl, hZ, hh⟩ := hP
  have hx := Bd.exec
  have hby := Bd.bytes
  have hml : c.maxLocals = 2 := hml0
  have hown : s.vm.findClass "java/util/Arrays" = some m.cls := findClass_of_methodNamed Bd.named
  have hnm := (name_of_methodNamed Bd.named Bd.method).1
  have X0 : Stand p l e ({ frames := 1, cells := 0, slots := 0, locals := 19 } : Room) s m #[(.ref r_SPACE), (.int 10)] below meth c s₁ [] 0 0 := Stand.of_body Bd
  have e0 : s₁.heap = h0 := by rw [← hh, Bd.state]; rfl
  have N0 := Fr.nil n0
  have pre0 : ∀ t, Steps p.tables e below (s₁.setTop (mkF m 0 #[.val (.ref r_SPACE), .val (.int 10)] [])) t → Steps p.tables e below (s₁.setTop (entryFrame m #[(.ref r_SPACE), (.int 10)] 2)) t := fun t k => castTop (by first | (simp [entryFrame, mkF, argsToLocals, Value.category]; done) | rfl) k
  obtain ⟨_, _, ⟨T1, L1, k1, n1⟩, -, X1, ⟨Lc1, hQ1, l1, y1, z1⟩, st1⟩ := Jvm.LawKit.callS X0 hx (y := (⟨"java/util/Arrays", "binarySearch0", "([IIII)I"⟩ : MethodName)) hown (mvT hZ (hw _ (List.mem_of_getElem? (i := 19) rfl))) (mvT hZ (hw _ (List.mem_of_getElem? (i := 20) rfl))) (mvT hZ (hw _ (List.mem_of_getElem? (i := 17) rfl))) (mvT hZ (hw _ (List.mem_of_getElem? (i := 21) rfl))) (by decide) (backOf (W := 0) (rm4_r_SPACE_0_6_10 l Z a0 hw [] r_SPACE k_SPACE h0 n0 Z0 V_r_SPACE) hZ (hw _ (List.mem_of_getElem? (i := 21) rfl)) (hw _ (List.mem_of_getElem? (i := 17) rfl)) (by decide) (by decide)) (g := (mkF m 5 #[.val (.ref r_SPACE), .val (.int 10)] [(.int 10), (.int 6), (.int 0), (.ref r_SPACE)])) rfl (by rw [hml]; rfl) (argsL := [(.ref r_SPACE), (.int 0), (.int 6), (.int 10)]) (rest := []) (lenOf pd___IIII_I rfl) rfl (by show 2 * 0 + _ ≤ _; exact Nat.le_of_eq rfl) (hb hby d3_5) (fun _ _ => ⟨rfl, e0, (by decide : 0 + 0 ≤ _), (by decide : 0 + 0 ≤ _)⟩)
  dsimp only [Pt.U, Pt.locs, Pt.cells, Pt.slots] at X1 l1 y1 z1 st1 hQ1
  subst l1 y1 z1
  obtain ⟨rfl, N1q, e1⟩ := hQ1
  have N1 := Fr.app N0 N1q
  obtain ⟨fs, hr, hrun, hended, hW, hsame⟩ := X1.leave (v := some (.int 1)) (fun h => by rw [Bd.returns] at h; cases h)
  refine ⟨_, _, pre0 _ ?_, hrun, hended, _, _, rfl, ?_, ⟨_, rfl⟩, hW, hsame.mono (by decide) (by decide)⟩
  · show Steps p.tables e below (s₁.setTop (mkF m 0 #[.val (.ref r_SPACE), .val (.int 10)] [])) _
    refine XS.aloadN X0.here hx rfl (hb hby d3_0) rfl rfl ?_
    show Steps p.tables e below (s₁.setTop (mkF m 1 #[.val (.ref r_SPACE), .val (.int 10)] [(.ref r_SPACE)])) _
    refine XS.iconst X0.here hx rfl (hb hby d3_1) ?_
    show Steps p.tables e below (s₁.setTop (mkF m 2 #[.val (.ref r_SPACE), .val (.int 10)] [(.int 0), (.ref r_SPACE)])) _
    refine XS.aloadN X0.here hx rfl (hb hby d3_2) rfl rfl ?_
    show Steps p.tables e below (s₁.setTop (mkF m 3 #[.val (.ref r_SPACE), .val (.int 10)] [(.ref r_SPACE), (.int 0), (.ref r_SPACE)])) _
    refine own_lenz X0 hx hZ e0 V_r_SPACE (g := (mkF m 3 #[.val (.ref r_SPACE), .val (.int 10)] [(.ref r_SPACE), (.int 0), (.ref r_SPACE)])) rfl rfl (hb hby d3_3) _ ?_
    show Steps p.tables e below (s₁.setTop (mkF m 4 #[.val (.ref r_SPACE), .val (.int 10)] [(.int 6), (.int 0), (.ref r_SPACE)])) _
    refine XS.iloadN X0.here hx rfl (hb hby d3_4) rfl ?_
    show Steps p.tables e below (s₁.setTop (mkF m 5 #[.val (.ref r_SPACE), .val (.int 10)] [(.int 10), (.int 6), (.int 0), (.ref r_SPACE)])) _
    refine st1 _ ?_
    show Steps p.tables e below (T1.setTop (mkF m 8 #[.val (.ref r_SPACE), .val (.int 10)] [(.int 1)])) _
    exact retI X1 hx Bd.returns (hb hby d3_8) hr
  · show Q3_r_SPACE_10 Z r_SPACE k_SPACE h0 n0 _ T1.heap _
    rw [e1]
    exact ⟨rfl, N1, rfl⟩
def Q2_w_SPACE_10_all_SPACE (Z : State) (w_SPACE : Addr) (r_SPACE : Addr) (k_SPACE : ClassId) (h0 : Heap) (n0 : Nat) (v : Option Value) (h : Heap) (L : List Loc) : Prop := v = some (.int (own_s (10 : Int32))) ∧ Fr n0 L ∧ h = h0
set_option maxRecDepth 65536 in
set_option maxHeartbeats 40000000 in
theorem rm2_w_SPACE_10_all_SPACE (l : Launch) (Z : State) (a0 : Array Value) (hw : ∀ d ∈ tables_1, d.before a0 Z = true) (ws : List Jvm.Cond) (w_SPACE : Addr) (r_SPACE : Addr) (k_SPACE : ClassId) (h0 : Heap) (n0 : Nat) (Z0 : n0 ≤ h0.size) (F_ranges_w_SPACE : Fld Z h0 w_SPACE "com/example/termwell/termwell/core/text/CodePointSet" "ranges" "[I" (.ref r_SPACE)) (V_r_SPACE : Arv Z h0 r_SPACE k_SPACE .int (6 : Int32) [(.int 9), (.int 10), (.int 12), (.int 13), (.int 32), (.int 32)] (.int (0 : Int32))) (hret : (own_s (10 : Int32)) = (1 : Int32)) :
    MetFree l (⟨"com/example/termwell/termwell/core/text/CodePointSet", "contains", "(I)Z"⟩ : MethodName) (head1 (Jvm.Cond.code (⟨"com/example/termwell/termwell/core/text/CodePointSet", "contains", "(I)Z"⟩ : MethodName) prog_19_method_4_code 3 (some .boolean) :: ws) ({ frames := 2, cells := 0, slots := 0, locals := 32 } : Room)) (fun a U => a = #[(.ref w_SPACE), (.int 10)] ∧ Z.Warmed39 U.vm ∧ U.heap = h0) (fun _ _ _ _ _ => True) (fun _ U o U' => ∃ v L, o = .returned v ∧ Q2_w_SPACE_10_all_SPACE Z w_SPACE r_SPACE k_SPACE h0 n0 v U'.heap L ∧ FrameEnd U o U' L ({ frames := 2, cells := 0, slots := 0, locals := 32 } : Room).cells ({ frames := 2, cells := 0, slots := 0, locals := 32 } : Room).slots) := by
  refine MetFree.of_bodySF (plainFor_of_name pn_2) hisR ?_
  intro p e s m args below meth c s₁ Bd hml0 hP hK
  obtain ⟨rfl, hZ, hh⟩ := hP
  have hx := Bd.exec
  have hby := Bd.bytes
  have hml : c.maxLocals = 3 := hml0
  have hown : s.vm.findClass "com/example/termwell/termwell/core/text/CodePointSet" = some m.cls := findClass_of_methodNamed Bd.named
  have hnm := (name_of_methodNamed Bd.named Bd.method).1
  have X0 : Stand p l e ({ frames := 2, cells := 0, slots := 0, locals := 32 } : Room) s m #[(.ref w_SPACE), (.int 10)] below meth c s₁ [] 0 0 := Stand.of_body Bd
  have e0 : s₁.heap = h0 := by rw [← hh, Bd.state]; rfl
  have N0 := Fr.nil n0
  have pre0 : ∀ t, Steps p.tables e below (s₁.setTop (mkF m 0 #[.val (.ref w_SPACE), .val (.int 10), .unset] [])) t → Steps p.tables e below (s₁.setTop (entryFrame m #[(.ref w_SPACE), (.int 10)] 3)) t := fun t k => castTop (by first | (simp [entryFrame, mkF, argsToLocals, Value.category]; done) | rfl) k
  obtain ⟨T1, X1, e1, st1⟩ := getF X0 hx hZ hown (host := "") (Or.inl (hw _ (List.mem_of_getElem? (i := 13) rfl))) Via.refl e0 F_ranges_w_SPACE (g := (mkF m 1 #[.val (.ref w_SPACE), .val (.int 10), .unset] [(.ref w_SPACE)])) rfl rfl (hb hby d2_1)
  obtain ⟨_, _, ⟨T2, L2, k2, n2⟩, -, X2, ⟨Lc2, hQ2, l2, y2, z2⟩, st2⟩ := Jvm.LawKit.callS X1 hx (y := (⟨"java/util/Arrays", "binarySearch", "([II)I"⟩ : MethodName)) hown (mvT hZ (hw _ (List.mem_of_getElem? (i := 15) rfl))) (mvT hZ (hw _ (List.mem_of_getElem? (i := 16) rfl))) (mvT hZ (hw _ (List.mem_of_getElem? (i := 17) rfl))) (mvT hZ (hw _ (List.mem_of_getElem? (i := 18) rfl))) (by decide) (backOf (W := 0) (rm3_r_SPACE_10 l Z a0 hw [] r_SPACE k_SPACE h0 n0 Z0 V_r_SPACE) hZ (hw _ (List.mem_of_getElem? (i := 18) rfl)) (hw _ (List.mem_of_getElem? (i := 17) rfl)) (by decide) (by decide)) (g := (mkF m 5 #[.val (.ref w_SPACE), .val (.int 10), .unset] [(.int 10), (.ref r_SPACE)])) rfl (by rw [hml]; rfl) (argsL := [(.ref r_SPACE), (.int 10)]) (rest := []) (lenOf pd___II_I rfl) rfl (by show 2 * 0 + _ ≤ _; exact Nat.le_of_eq rfl) (hb hby d2_5) (fun _ _ => ⟨rfl, e1, (by decide : 0 + 0 ≤ _), (by decide : 0 + 0 ≤ _)⟩)
  dsimp only [Pt.U, Pt.locs, Pt.cells, Pt.slots] at X2 l2 y2 z2 st2 hQ2
  subst l2 y2 z2
  obtain ⟨rfl, N2q, e2⟩ := hQ2
  have N2 := Fr.app N0 N2q
  obtain ⟨fs, hr, hrun, hended, hW, hsame⟩ := X2.leave (v := some (.int 1)) (fun h => by rw [Bd.returns] at h; cases h)
  refine ⟨_, _, pre0 _ ?_, hrun, hended, _, _, rfl, ?_, ⟨_, rfl⟩, hW, hsame.mono (by decide) (by decide)⟩
  · show Steps p.tables e below (s₁.setTop (mkF m 0 #[.val (.ref w_SPACE), .val (.int 10), .unset] [])) _
    refine XS.aloadN X0.here hx rfl (hb hby d2_0) rfl rfl ?_
    show Steps p.tables e below (s₁.setTop (mkF m 1 #[.val (.ref w_SPACE), .val (.int 10), .unset] [(.ref w_SPACE)])) _
    refine st1 _ ?_
    show Steps p.tables e below (T1.setTop (mkF m 4 #[.val (.ref w_SPACE), .val (.int 10), .unset] [(.ref r_SPACE)])) _
    refine XS.iloadN X1.here hx rfl (hb hby d2_4) rfl ?_
    show Steps p.tables e below (T1.setTop (mkF m 5 #[.val (.ref w_SPACE), .val (.int 10), .unset] [(.int 10), (.ref r_SPACE)])) _
    refine st2 _ ?_
    show Steps p.tables e below (T2.setTop (mkF m 8 #[.val (.ref w_SPACE), .val (.int 10), .unset] [(.int 1)])) _
    refine XS.istoreN X2.here hx rfl (hb hby d2_8) rfl (l' := #[.val (.ref w_SPACE), .val (.int 10), .val (.int 1)]) rfl ?_
    show Steps p.tables e below (T2.setTop (mkF m 9 #[.val (.ref w_SPACE), .val (.int 10), .val (.int 1)] [])) _
    refine XS.iloadN X2.here hx rfl (hb hby d2_9) rfl ?_
    show Steps p.tables e below (T2.setTop (mkF m 10 #[.val (.ref w_SPACE), .val (.int 10), .val (.int 1)] [(.int 1)])) _
    refine XS.ifYes X2.here hx rfl (pc0 := 10) (pc' := 23) rfl (hb hby d2_10) rfl ((if0 _ _).trans (flt (by decide : ¬ ((1 : Int32) < (0 : Int32)))).2.1) (by decide) (by decide) ?_
    show Steps p.tables e below (T2.setTop (mkF m 23 #[.val (.ref w_SPACE), .val (.int 10), .val (.int 1)] [])) _
    refine XS.iconst X2.here hx rfl (hb hby d2_23) ?_
    show Steps p.tables e below (T2.setTop (mkF m 24 #[.val (.ref w_SPACE), .val (.int 10), .val (.int 1)] [(.int 1)])) _
    refine XS.goto X2.here hx rfl (pc0 := 24) (pc' := 28) rfl (hb hby d2_24) (by decide) (by decide) ?_
    show Steps p.tables e below (T2.setTop (mkF m 28 #[.val (.ref w_SPACE), .val (.int 10), .val (.int 1)] [(.int 1)])) _
    exact retN X2 hx (t := .boolean) Bd.returns (by simp) (hb hby d2_28) hr
  · show Q2_w_SPACE_10_all_SPACE Z w_SPACE r_SPACE k_SPACE h0 n0 _ T2.heap _
    rw [e2]
    exact ⟨(by rw [hret]), N2, rfl⟩
def Q4_r_SPACE_0_6_11 (Z : State) (r_SPACE : Addr) (k_SPACE : ClassId) (h0 : Heap) (n0 : Nat) (v : Option Value) (h : Heap) (L : List Loc) : Prop := v = some (.int (-3)) ∧ Fr n0 L ∧ h = h0
set_option maxRecDepth 65536 in
set_option maxHeartbeats 40000000 in
theorem rm4_r_SPACE_0_6_11 (l : Launch) (Z : State) (a0 : Array Value) (hw : ∀ d ∈ tables_1, d.before a0 Z = true) (ws : List Jvm.Cond) (r_SPACE : Addr) (k_SPACE : ClassId) (h0 : Heap) (n0 : Nat) (Z0 : n0 ≤ h0.size) (V_r_SPACE : Arv Z h0 r_SPACE k_SPACE .int (6 : Int32) [(.int 9), (.int 10), (.int 12), (.int 13), (.int 32), (.int 32)] (.int (0 : Int32))) :
    MetFree l (⟨"java/util/Arrays", "binarySearch0", "([IIII)I"⟩ : MethodName) (head1 (Jvm.Cond.code (⟨"java/util/Arrays", "binarySearch0", "([IIII)I"⟩ : MethodName) jdk_65_method_59_code 8 (some .int) :: ws) ({ frames := 0, cells := 0, slots := 0, locals := 0 } : Room)) (fun a U => a = #[(.ref r_SPACE), (.int 0), (.int 6), (.int 11)] ∧ Z.Warmed39 U.vm ∧ U.heap = h0) (fun _ _ _ _ _ => True) (fun _ U o U' => ∃ v L, o = .returned v ∧ Q4_r_SPACE_0_6_11 Z r_SPACE k_SPACE h0 n0 v U'.heap L ∧ FrameEnd U o U' L ({ frames := 0, cells := 0, slots := 0, locals := 0 } : Room).cells ({ frames := 0, cells := 0, slots := 0, locals := 0 } : Room).slots) := by
  refine MetFree.of_bodySF (plainFor_of_name pn_4) hisR ?_
  intro p e s m args below meth c s₁ Bd hml0 hP hK
  obtain ⟨rfl, hZ, hh⟩ := hP
  have hx := Bd.exec
  have hby := Bd.bytes
  have hml : c.maxLocals = 8 := hml0
  have hown : s.vm.findClass "java/util/Arrays" = some m.cls := findClass_of_methodNamed Bd.named
  have hnm := (name_of_methodNamed Bd.named Bd.method).1
  have X0 : Stand p l e ({ frames := 0, cells := 0, slots := 0, locals := 0 } : Room) s m #[(.ref r_SPACE), (.int 0), (.int 6), (.int 11)] below meth c s₁ [] 0 0 := Stand.of_body Bd
  have e0 : s₁.heap = h0 := by rw [← hh, Bd.state]; rfl
  have N0 := Fr.nil n0
  have pre0 : ∀ t, Steps p.tables e below (s₁.setTop (mkF m 0 #[.val (.ref r_SPACE), .val (.int 0), .val (.int 6), .val (.int 11), .unset, .unset, .unset, .unset] [])) t → Steps p.tables e below (s₁.setTop (entryFrame m #[(.ref r_SPACE), (.int 0), (.int 6), (.int 11)] 8)) t := fun t k => castTop (by first | (simp [entryFrame, mkF, argsToLocals, Value.category]; done) | rfl) k
  obtain ⟨fs, hr, hrun, hended, hW, hsame⟩ := X0.leave (v := some (.int (-3))) (fun h => by rw [Bd.returns] at h; cases h)
  refine ⟨_, _, pre0 _ ?_, hrun, hended, _, _, rfl, ?_, ⟨_, rfl⟩, hW, hsame.mono (by decide) (by decide)⟩
  · show Steps p.tables e below (s₁.setTop (mkF m 0 #[.val (.ref r_SPACE), .val (.int 0), .val (.int 6), .val (.int 11), .unset, .unset, .unset, .unset] [])) _
    refine XS.iloadN X0.here hx rfl (hb hby d4_0) rfl ?_
    show Steps p.tables e below (s₁.setTop (mkF m 1 #[.val (.ref r_SPACE), .val (.int 0), .val (.int 6), .val (.int 11), .unset, .unset, .unset, .unset] [(.int 0)])) _
    refine XS.istore X0.here hx rfl (hb hby d4_1) rfl (l' := #[.val (.ref r_SPACE), .val (.int 0), .val (.int 6), .val (.int 11), .val (.int 0), .unset, .unset, .unset]) rfl ?_
    show Steps p.tables e below (s₁.setTop (mkF m 3 #[.val (.ref r_SPACE), .val (.int 0), .val (.int 6), .val (.int 11), .val (.int 0), .unset, .unset, .unset] [])) _
    refine XS.iloadN X0.here hx rfl (hb hby d4_3) rfl ?_
    show Steps p.tables e below (s₁.setTop (mkF m 4 #[.val (.ref r_SPACE), .val (.int 0), .val (.int 6), .val (.int 11), .val (.int 0), .unset, .unset, .unset] [(.int 6)])) _
    refine XS.iconst X0.here hx rfl (hb hby d4_4) ?_
    show Steps p.tables e below (s₁.setTop (mkF m 5 #[.val (.ref r_SPACE), .val (.int 0), .val (.int 6), .val (.int 11), .val (.int 0), .unset, .unset, .unset] [(.int 1), (.int 6)])) _
    refine XS.isub X0.here hx rfl (hb hby d4_5) rfl ?_
    show Steps p.tables e below (s₁.setTop (mkF m 6 #[.val (.ref r_SPACE), .val (.int 0), .val (.int 6), .val (.int 11), .val (.int 0), .unset, .unset, .unset] [(.int ((6 : Int32) - (1 : Int32)))])) _
    rw [(by decide : ((6 : Int32) - (1 : Int32)) = (5 : Int32))]
    show Steps p.tables e below (s₁.setTop (mkF m 6 #[.val (.ref r_SPACE), .val (.int 0), .val (.int 6), .val (.int 11), .val (.int 0), .unset, .unset, .unset] [(.int 5)])) _
    refine XS.istore X0.here hx rfl (hb hby d4_6) rfl (l' := #[.val (.ref r_SPACE), .val (.int 0), .val (.int 6), .val (.int 11), .val (.int 0), .val (.int 5), .unset, .unset]) rfl ?_
    show Steps p.tables e below (s₁.setTop (mkF m 8 #[.val (.ref r_SPACE), .val (.int 0), .val (.int 6), .val (.int 11), .val (.int 0), .val (.int 5), .unset, .unset] [])) _
    refine tnGu r_SPACE (0 : Int32) (6 : Int32) (11 : Int32) (0 : Int32) (5 : Int32) (2 : Int32) k_SPACE (6 : Int32) [(.int 9), (.int 10), (.int 12), (.int 13), (.int 32), (.int 32)] (.int (0 : Int32)) (12 : Int32) (1 : Int32) X0 hx hZ hby e0 (by decide) (by decide) V_r_SPACE ⟨by decide, by decide⟩ rfl (by decide) (by decide) (by decide) _ ?_
    show Steps p.tables e below (s₁.setTop (mkF m 8 #[.val (.ref r_SPACE), .val (.int 0), .val (.int 6), .val (.int 11), .val (.int 0), .val (.int 1), .val (.int 2), .val (.int 12)] [])) _
    refine tnLv r_SPACE (0 : Int32) (6 : Int32) (11 : Int32) (0 : Int32) (1 : Int32) (2 : Int32) (12 : Int32) (0 : Int32) k_SPACE (6 : Int32) [(.int 9), (.int 10), (.int 12), (.int 13), (.int 32), (.int 32)] (.int (0 : Int32)) (9 : Int32) (1 : Int32) X0 hx hZ hby e0 (by decide) (by decide) V_r_SPACE ⟨by decide, by decide⟩ rfl (by decide) (by decide) _ ?_
    show Steps p.tables e below (s₁.setTop (mkF m 8 #[.val (.ref r_SPACE), .val (.int 0), .val (.int 6), .val (.int 11), .val (.int 1), .val (.int 1), .val (.int 0), .val (.int 9)] [])) _
    refine tnLv r_SPACE (0 : Int32) (6 : Int32) (11 : Int32) (1 : Int32) (1 : Int32) (0 : Int32) (9 : Int32) (1 : Int32) k_SPACE (6 : Int32) [(.int 9), (.int 10), (.int 12), (.int 13), (.int 32), (.int 32)] (.int (0 : Int32)) (10 : Int32) (2 : Int32) X0 hx hZ hby e0 (by decide) (by decide) V_r_SPACE ⟨by decide, by decide⟩ rfl (by decide) (by decide) _ ?_
    show Steps p.tables e below (s₁.setTop (mkF m 8 #[.val (.ref r_SPACE), .val (.int 0), .val (.int 6), .val (.int 11), .val (.int 2), .val (.int 1), .val (.int 1), .val (.int 10)] [])) _
    refine XS.iload X0.here hx rfl (hb hby d4_8) rfl ?_
    show Steps p.tables e below (s₁.setTop (mkF m 10 #[.val (.ref r_SPACE), .val (.int 0), .val (.int 6), .val (.int 11), .val (.int 2), .val (.int 1), .val (.int 1), .val (.int 10)] [(.int 2)])) _
    refine XS.iload X0.here hx rfl (hb hby d4_10) rfl ?_
    show Steps p.tables e below (s₁.setTop (mkF m 12 #[.val (.ref r_SPACE), .val (.int 0), .val (.int 6), .val (.int 11), .val (.int 2), .val (.int 1), .val (.int 1), .val (.int 10)] [(.int 1), (.int 2)])) _
    refine XS.icmpYes X0.here hx rfl (pc0 := 12) (pc' := 66) rfl (hb hby d4_12) rfl (tlt (by decide : (1 : Int32) < (2 : Int32))).2.2.1 (by decide) (by decide) ?_
    show Steps p.tables e below (s₁.setTop (mkF m 66 #[.val (.ref r_SPACE), .val (.int 0), .val (.int 6), .val (.int 11), .val (.int 2), .val (.int 1), .val (.int 1), .val (.int 10)] [])) _
    refine XS.iload X0.here hx rfl (hb hby d4_66) rfl ?_
    show Steps p.tables e below (s₁.setTop (mkF m 68 #[.val (.ref r_SPACE), .val (.int 0), .val (.int 6), .val (.int 11), .val (.int 2), .val (.int 1), .val (.int 1), .val (.int 10)] [(.int 2)])) _
    refine XS.iconst X0.here hx rfl (hb hby d4_68) ?_
    show Steps p.tables e below (s₁.setTop (mkF m 69 #[.val (.ref r_SPACE), .val (.int 0), .val (.int 6), .val (.int 11), .val (.int 2), .val (.int 1), .val (.int 1), .val (.int 10)] [(.int 1), (.int 2)])) _
    refine XS.iadd X0.here hx rfl (hb hby d4_69) rfl ?_
    show Steps p.tables e below (s₁.setTop (mkF m 70 #[.val (.ref r_SPACE), .val (.int 0), .val (.int 6), .val (.int 11), .val (.int 2), .val (.int 1), .val (.int 1), .val (.int 10)] [(.int ((2 : Int32) + (1 : Int32)))])) _
    rw [(by decide : ((2 : Int32) + (1 : Int32)) = (3 : Int32))]
    show Steps p.tables e below (s₁.setTop (mkF m 70 #[.val (.ref r_SPACE), .val (.int 0), .val (.int 6), .val (.int 11), .val (.int 2), .val (.int 1), .val (.int 1), .val (.int 10)] [(.int 3)])) _
    refine XS.ineg X0.here hx rfl (hb hby d4_70) rfl ?_
    show Steps p.tables e below (s₁.setTop (mkF m 71 #[.val (.ref r_SPACE), .val (.int 0), .val (.int 6), .val (.int 11), .val (.int 2), .val (.int 1), .val (.int 1), .val (.int 10)] [(.int (-(3 : Int32)))])) _
    rw [(by decide : (-(3 : Int32)) = (-3 : Int32))]
    show Steps p.tables e below (s₁.setTop (mkF m 71 #[.val (.ref r_SPACE), .val (.int 0), .val (.int 6), .val (.int 11), .val (.int 2), .val (.int 1), .val (.int 1), .val (.int 10)] [(.int (-3))])) _
    exact retI X0 hx Bd.returns (hb hby d4_71) hr
  · show Q4_r_SPACE_0_6_11 Z r_SPACE k_SPACE h0 n0 _ s₁.heap _
    rw [e0]
    exact ⟨rfl, N0, rfl⟩
def Q3_r_SPACE_11 (Z : State) (r_SPACE : Addr) (k_SPACE : ClassId) (h0 : Heap) (n0 : Nat) (v : Option Value) (h : Heap) (L : List Loc) : Prop := v = some (.int (-3)) ∧ Fr n0 L ∧ h = h0
set_option maxRecDepth 65536 in
set_option maxHeartbeats 40000000 in
theorem rm3_r_SPACE_11 (l : Launch) (Z : State) (a0 : Array Value) (hw : ∀ d ∈ tables_1, d.before a0 Z = true) (ws : List Jvm.Cond) (r_SPACE : Addr) (k_SPACE : ClassId) (h0 : Heap) (n0 : Nat) (Z0 : n0 ≤ h0.size) (V_r_SPACE : Arv Z h0 r_SPACE k_SPACE .int (6 : Int32) [(.int 9), (.int 10), (.int 12), (.int 13), (.int 32), (.int 32)] (.int (0 : Int32))) :
    MetFree l (⟨"java/util/Arrays", "binarySearch", "([II)I"⟩ : MethodName) (head1 (Jvm.Cond.code (⟨"java/util/Arrays", "binarySearch", "([II)I"⟩ : MethodName) jdk_65_method_57_code 2 (some .int) :: ws) ({ frames := 1, cells := 0, slots := 0, locals := 19 } : Room)) (fun a U => a = #[(.ref r_SPACE), (.int 11)] ∧ Z.Warmed39 U.vm ∧ U.heap = h0) (fun _ _ _ _ _ => True) (fun _ U o U' => ∃ v L, o = .returned v ∧ Q3_r_SPACE_11 Z r_SPACE k_SPACE h0 n0 v U'.heap L ∧ FrameEnd U o U' L ({ frames := 1, cells := 0, slots := 0, locals := 19 } : Room).cells ({ frames := 1, cells := 0, slots := 0, locals := 19 } : Room).slots) := by
  refine MetFree.of_bodySF (plainFor_of_name pn_3) hisR ?_
  intro p e s m args below meth c s₁ Bd hml0 hP hK
  obtain ⟨rfl, hZ, hh⟩ := hP
  have hx := Bd.exec
  have hby := Bd.bytes
  have hml : c.maxLocals = 2 := hml0
  have hown : s.vm.findClass "java/util/Arrays" = some m.cls := findClass_of_methodNamed Bd.named
  have hnm := (name_of_methodNamed Bd.named Bd.method).1
  have X0 : Stand p l e ({ frames := 1, cells := 0, slots := 0, locals := 19 } : Room) s m #[(.ref r_SPACE), (.int 11)] below meth c s₁ [] 0 0 := Stand.of_body Bd
  have e0 : s₁.heap = h0 := by rw [← hh, Bd.state]; rfl
  have N0 := Fr.nil n0
  have pre0 : ∀ t, Steps p.tables e below (s₁.setTop (mkF m 0 #[.val (.ref r_SPACE), .val (.int 11)] [])) t → Steps p.tables e below (s₁.setTop (entryFrame m #[(.ref r_SPACE), (.int 11)] 2)) t := fun t k => castTop (by first | (simp [entryFrame, mkF, argsToLocals, Value.category]; done) | rfl) k
  obtain ⟨_, _, ⟨T1, L1, k1, n1⟩, -, X1, ⟨Lc1, hQ1, l1, y1, z1⟩, st1⟩ := Jvm.LawKit.callS X0 hx (y := (⟨"java/util/Arrays", "binarySearch0", "([IIII)I"⟩ : MethodName)) hown (mvT hZ (hw _ (List.mem_of_getElem? (i := 19) rfl))) (mvT hZ (hw _ (List.mem_of_getElem? (i := 20) rfl))) (mvT hZ (hw _ (List.mem_of_getElem? (i := 17) rfl))) (mvT hZ (hw _ (List.mem_of_getElem? (i := 21) rfl))) (by decide) (backOf (W := 0) (rm4_r_SPACE_0_6_11 l Z a0 hw [] r_SPACE k_SPACE h0 n0 Z0 V_r_SPACE) hZ (hw _ (List.mem_of_getElem? (i := 21) rfl)) (hw _ (List.mem_of_getElem? (i := 17) rfl)) (by decide) (by decide)) (g := (mkF m 5 #[.val (.ref r_SPACE), .val (.int 11)] [(.int 11), (.int 6), (.int 0), (.ref r_SPACE)])) rfl (by rw [hml]; rfl) (argsL := [(.ref r_SPACE), (.int 0), (.int 6), (.int 11)]) (rest := []) (lenOf pd___IIII_I rfl) rfl (by show 2 * 0 + _ ≤ _; exact Nat.le_of_eq rfl) (hb hby d3_5) (fun _ _ => ⟨rfl, e0, (by decide : 0 + 0 ≤ _), (by decide : 0 + 0 ≤ _)⟩)
  dsimp only [Pt.U, Pt.locs, Pt.cells, Pt.slots] at X1 l1 y1 z1 st1 hQ1
  subst l1 y1 z1
  obtain ⟨rfl, N1q, e1⟩ := hQ1
  have N1 := Fr.app N0 N1q
  obtain ⟨fs, hr, hrun, hended, hW, hsame⟩ := X1.leave (v := some (.int (-3))) (fun h => by rw [Bd.returns] at h; cases h)
  refine ⟨_, _, pre0 _ ?_, hrun, hended, _, _, rfl, ?_, ⟨_, rfl⟩, hW, hsame.mono (by decide) (by decide)⟩
  · show Steps p.tables e below (s₁.setTop (mkF m 0 #[.val (.ref r_SPACE), .val (.int 11)] [])) _
    refine XS.aloadN X0.here hx rfl (hb hby d3_0) rfl rfl ?_
    show Steps p.tables e below (s₁.setTop (mkF m 1 #[.val (.ref r_SPACE), .val (.int 11)] [(.ref r_SPACE)])) _
    refine XS.iconst X0.here hx rfl (hb hby d3_1) ?_
    show Steps p.tables e below (s₁.setTop (mkF m 2 #[.val (.ref r_SPACE), .val (.int 11)] [(.int 0), (.ref r_SPACE)])) _
    refine XS.aloadN X0.here hx rfl (hb hby d3_2) rfl rfl ?_
    show Steps p.tables e below (s₁.setTop (mkF m 3 #[.val (.ref r_SPACE), .val (.int 11)] [(.ref r_SPACE), (.int 0), (.ref r_SPACE)])) _
    refine own_lenz X0 hx hZ e0 V_r_SPACE (g := (mkF m 3 #[.val (.ref r_SPACE), .val (.int 11)] [(.ref r_SPACE), (.int 0), (.ref r_SPACE)])) rfl rfl (hb hby d3_3) _ ?_
    show Steps p.tables e below (s₁.setTop (mkF m 4 #[.val (.ref r_SPACE), .val (.int 11)] [(.int 6), (.int 0), (.ref r_SPACE)])) _
    refine XS.iloadN X0.here hx rfl (hb hby d3_4) rfl ?_
    show Steps p.tables e below (s₁.setTop (mkF m 5 #[.val (.ref r_SPACE), .val (.int 11)] [(.int 11), (.int 6), (.int 0), (.ref r_SPACE)])) _
    refine st1 _ ?_
    show Steps p.tables e below (T1.setTop (mkF m 8 #[.val (.ref r_SPACE), .val (.int 11)] [(.int (-3))])) _
    exact retI X1 hx Bd.returns (hb hby d3_8) hr
  · show Q3_r_SPACE_11 Z r_SPACE k_SPACE h0 n0 _ T1.heap _
    rw [e1]
    exact ⟨rfl, N1, rfl⟩
def Q2_w_SPACE_11_all_SPACE (Z : State) (w_SPACE : Addr) (r_SPACE : Addr) (k_SPACE : ClassId) (h0 : Heap) (n0 : Nat) (v : Option Value) (h : Heap) (L : List Loc) : Prop := v = some (.int (own_s (11 : Int32))) ∧ Fr n0 L ∧ h = h0
set_option maxRecDepth 65536 in
set_option maxHeartbeats 40000000 in
theorem rm2_w_SPACE_11_all_SPACE (l : Launch) (Z : State) (a0 : Array Value) (hw : ∀ d ∈ tables_1, d.before a0 Z = true) (ws : List Jvm.Cond) (w_SPACE : Addr) (r_SPACE : Addr) (k_SPACE : ClassId) (h0 : Heap) (n0 : Nat) (Z0 : n0 ≤ h0.size) (F_ranges_w_SPACE : Fld Z h0 w_SPACE "com/example/termwell/termwell/core/text/CodePointSet" "ranges" "[I" (.ref r_SPACE)) (V_r_SPACE : Arv Z h0 r_SPACE k_SPACE .int (6 : Int32) [(.int 9), (.int 10), (.int 12), (.int 13), (.int 32), (.int 32)] (.int (0 : Int32))) (hret : (own_s (11 : Int32)) = (0 : Int32)) :
    MetFree l (⟨"com/example/termwell/termwell/core/text/CodePointSet", "contains", "(I)Z"⟩ : MethodName) (head1 (Jvm.Cond.code (⟨"com/example/termwell/termwell/core/text/CodePointSet", "contains", "(I)Z"⟩ : MethodName) prog_19_method_4_code 3 (some .boolean) :: ws) ({ frames := 2, cells := 0, slots := 0, locals := 32 } : Room)) (fun a U => a = #[(.ref w_SPACE), (.int 11)] ∧ Z.Warmed39 U.vm ∧ U.heap = h0) (fun _ _ _ _ _ => True) (fun _ U o U' => ∃ v L, o = .returned v ∧ Q2_w_SPACE_11_all_SPACE Z w_SPACE r_SPACE k_SPACE h0 n0 v U'.heap L ∧ FrameEnd U o U' L ({ frames := 2, cells := 0, slots := 0, locals := 32 } : Room).cells ({ frames := 2, cells := 0, slots := 0, locals := 32 } : Room).slots) := by
  refine MetFree.of_bodySF (plainFor_of_name pn_2) hisR ?_
  intro p e s m args below meth c s₁ Bd hml0 hP hK
  obtain ⟨rfl, hZ, hh⟩ := hP
  have hx := Bd.exec
  have hby := Bd.bytes
  have hml : c.maxLocals = 3 := hml0
  have hown : s.vm.findClass "com/example/termwell/termwell/core/text/CodePointSet" = some m.cls := findClass_of_methodNamed Bd.named
  have hnm := (name_of_methodNamed Bd.named Bd.method).1
  have X0 : Stand p l e ({ frames := 2, cells := 0, slots := 0, locals := 32 } : Room) s m #[(.ref w_SPACE), (.int 11)] below meth c s₁ [] 0 0 := Stand.of_body Bd
  have e0 : s₁.heap = h0 := by rw [← hh, Bd.state]; rfl
  have N0 := Fr.nil n0
  have pre0 : ∀ t, Steps p.tables e below (s₁.setTop (mkF m 0 #[.val (.ref w_SPACE), .val (.int 11), .unset] [])) t → Steps p.tables e below (s₁.setTop (entryFrame m #[(.ref w_SPACE), (.int 11)] 3)) t := fun t k => castTop (by first | (simp [entryFrame, mkF, argsToLocals, Value.category]; done) | rfl) k
  obtain ⟨T1, X1, e1, st1⟩ := getF X0 hx hZ hown (host := "") (Or.inl (hw _ (List.mem_of_getElem? (i := 13) rfl))) Via.refl e0 F_ranges_w_SPACE (g := (mkF m 1 #[.val (.ref w_SPACE), .val (.int 11), .unset] [(.ref w_SPACE)])) rfl rfl (hb hby d2_1)
  obtain ⟨_, _, ⟨T2, L2, k2, n2⟩, -, X2, ⟨Lc2, hQ2, l2, y2, z2⟩, st2⟩ := Jvm.LawKit.callS X1 hx (y := (⟨"java/util/Arrays", "binarySearch", "([II)I"⟩ : MethodName)) hown (mvT hZ (hw _ (List.mem_of_getElem? (i := 15) rfl))) (mvT hZ (hw _ (List.mem_of_getElem? (i := 16) rfl))) (mvT hZ (hw _ (List.mem_of_getElem? (i := 17) rfl))) (mvT hZ (hw _ (List.mem_of_getElem? (i := 18) rfl))) (by decide) (backOf (W := 0) (rm3_r_SPACE_11 l Z a0 hw [] r_SPACE k_SPACE h0 n0 Z0 V_r_SPACE) hZ (hw _ (List.mem_of_getElem? (i := 18) rfl)) (hw _ (List.mem_of_getElem? (i := 17) rfl)) (by decide) (by decide)) (g := (mkF m 5 #[.val (.ref w_SPACE), .val (.int 11), .unset] [(.int 11), (.ref r_SPACE)])) rfl (by rw [hml]; rfl) (argsL := [(.ref r_SPACE), (.int 11)]) (rest := []) (lenOf pd___II_I rfl) rfl (by show 2 * 0 + _ ≤ _; exact Nat.le_of_eq rfl) (hb hby d2_5) (fun _ _ => ⟨rfl, e1, (by decide : 0 + 0 ≤ _), (by decide : 0 + 0 ≤ _)⟩)
  dsimp only [Pt.U, Pt.locs, Pt.cells, Pt.slots] at X2 l2 y2 z2 st2 hQ2
  subst l2 y2 z2
  obtain ⟨rfl, N2q, e2⟩ := hQ2
  have N2 := Fr.app N0 N2q
  obtain ⟨fs, hr, hrun, hended, hW, hsame⟩ := X2.leave (v := some (.int 0)) (fun h => by rw [Bd.returns] at h; cases h)
  refine ⟨_, _, pre0 _ ?_, hrun, hended, _, _, rfl, ?_, ⟨_, rfl⟩, hW, hsame.mono (by decide) (by decide)⟩
  · show Steps p.tables e below (s₁.setTop (mkF m 0 #[.val (.ref w_SPACE), .val (.int 11), .unset] [])) _
    refine XS.aloadN X0.here hx rfl (hb hby d2_0) rfl rfl ?_
    show Steps p.tables e below (s₁.setTop (mkF m 1 #[.val (.ref w_SPACE), .val (.int 11), .unset] [(.ref w_SPACE)])) _
    refine st1 _ ?_
    show Steps p.tables e below (T1.setTop (mkF m 4 #[.val (.ref w_SPACE), .val (.int 11), .unset] [(.ref r_SPACE)])) _
    refine XS.iloadN X1.here hx rfl (hb hby d2_4) rfl ?_
    show Steps p.tables e below (T1.setTop (mkF m 5 #[.val (.ref w_SPACE), .val (.int 11), .unset] [(.int 11), (.ref r_SPACE)])) _
    refine st2 _ ?_
    show Steps p.tables e below (T2.setTop (mkF m 8 #[.val (.ref w_SPACE), .val (.int 11), .unset] [(.int (-3))])) _
    refine XS.istoreN X2.here hx rfl (hb hby d2_8) rfl (l' := #[.val (.ref w_SPACE), .val (.int 11), .val (.int (-3))]) rfl ?_
    show Steps p.tables e below (T2.setTop (mkF m 9 #[.val (.ref w_SPACE), .val (.int 11), .val (.int (-3))] [])) _
    refine XS.iloadN X2.here hx rfl (hb hby d2_9) rfl ?_
    show Steps p.tables e below (T2.setTop (mkF m 10 #[.val (.ref w_SPACE), .val (.int 11), .val (.int (-3))] [(.int (-3))])) _
    refine XS.ifNo X2.here hx rfl (hb hby d2_10) rfl ((if0 _ _).trans (tlt (by decide : (-3 : Int32) < (0 : Int32))).2.1) ?_
    show Steps p.tables e below (T2.setTop (mkF m 13 #[.val (.ref w_SPACE), .val (.int 11), .val (.int (-3))] [])) _
    refine XS.iloadN X2.here hx rfl (hb hby d2_13) rfl ?_
    show Steps p.tables e below (T2.setTop (mkF m 14 #[.val (.ref w_SPACE), .val (.int 11), .val (.int (-3))] [(.int (-3))])) _
    refine XS.ineg X2.here hx rfl (hb hby d2_14) rfl ?_
    show Steps p.tables e below (T2.setTop (mkF m 15 #[.val (.ref w_SPACE), .val (.int 11), .val (.int (-3))] [(.int (-(-3 : Int32)))])) _
    rw [(by decide : (-(-3 : Int32)) = (3 : Int32))]
    show Steps p.tables e below (T2.setTop (mkF m 15 #[.val (.ref w_SPACE), .val (.int 11), .val (.int (-3))] [(.int 3)])) _
    refine XS.iconst X2.here hx rfl (hb hby d2_15) ?_
    show Steps p.tables e below (T2.setTop (mkF m 16 #[.val (.ref w_SPACE), .val (.int 11), .val (.int (-3))] [(.int 1), (.int 3)])) _
    refine XS.isub X2.here hx rfl (hb hby d2_16) rfl ?_
    show Steps p.tables e below (T2.setTop (mkF m 17 #[.val (.ref w_SPACE), .val (.int 11), .val (.int (-3))] [(.int ((3 : Int32) - (1 : Int32)))])) _
    rw [(by decide : ((3 : Int32) - (1 : Int32)) = (2 : Int32))]
    show Steps p.tables e below (T2.setTop (mkF m 17 #[.val (.ref w_SPACE), .val (.int 11), .val (.int (-3))] [(.int 2)])) _
    refine XS.iconst X2.here hx rfl (hb hby d2_17) ?_
    show Steps p.tables e below (T2.setTop (mkF m 18 #[.val (.ref w_SPACE), .val (.int 11), .val (.int (-3))] [(.int 2), (.int 2)])) _
    refine iremM X2 hx rfl (hb hby d2_18) rfl (by decide) ?_
    show Steps p.tables e below (T2.setTop (mkF m 19 #[.val (.ref w_SPACE), .val (.int 11), .val (.int (-3))] [(.int ((2 : Int32) % (2 : Int32)))])) _
    rw [(by decide : ((2 : Int32) % (2 : Int32)) = (0 : Int32))]
    show Steps p.tables e below (T2.setTop (mkF m 19 #[.val (.ref w_SPACE), .val (.int 11), .val (.int (-3))] [(.int 0)])) _
    refine XS.iconst X2.here hx rfl (hb hby d2_19) ?_
    show Steps p.tables e below (T2.setTop (mkF m 20 #[.val (.ref w_SPACE), .val (.int 11), .val (.int (-3))] [(.int 1), (.int 0)])) _
    refine XS.icmpYes X2.here hx rfl (pc0 := 20) (pc' := 27) rfl (hb hby d2_20) rfl (feq (by decide : ¬ ((0 : Int32) = (1 : Int32)))).2 (by decide) (by decide) ?_
    show Steps p.tables e below (T2.setTop (mkF m 27 #[.val (.ref w_SPACE), .val (.int 11), .val (.int (-3))] [])) _
    refine XS.iconst X2.here hx rfl (hb hby d2_27) ?_
    show Steps p.tables e below (T2.setTop (mkF m 28 #[.val (.ref w_SPACE), .val (.int 11), .val (.int (-3))] [(.int 0)])) _
    exact retN X2 hx (t := .boolean) Bd.returns (by simp) (hb hby d2_28) hr
  · show Q2_w_SPACE_11_all_SPACE Z w_SPACE r_SPACE k_SPACE h0 n0 _ T2.heap _
    rw [e2]
    exact ⟨(by rw [hret]), N2, rfl⟩
def Q4_r_SPACE_0_6_12 (Z : State) (r_SPACE : Addr) (k_SPACE : ClassId) (h0 : Heap) (n0 : Nat) (v : Option Value) (h : Heap) (L : List Loc) : Prop := v = some (.int 2) ∧ Fr n0 L ∧ h = h0
set_option maxRecDepth 65536 in
set_option maxHeartbeats 40000000 in
theorem rm4_r_SPACE_0_6_12 (l : Launch) (Z : State) (a0 : Array Value) (hw : ∀ d ∈ tables_1, d.before a0 Z = true) (ws : List Jvm.Cond) (r_SPACE : Addr) (k_SPACE : ClassId) (h0 : Heap) (n0 : Nat) (Z0 : n0 ≤ h0.size) (V_r_SPACE : Arv Z h0 r_SPACE k_SPACE .int (6 : Int32) [(.int 9), (.int 10), (.int 12), (.int 13), (.int 32), (.int 32)] (.int (0 : Int32))) :
    MetFree l (⟨"java/util/Arrays", "binarySearch0", "([IIII)I"⟩ : MethodName) (head1 (Jvm.Cond.code (⟨"java/util/Arrays", "binarySearch0", "([IIII)I"⟩ : MethodName) jdk_65_method_59_code 8 (some .int) :: ws) ({ frames := 0, cells := 0, slots := 0, locals := 0 } : Room)) (fun a U => a = #[(.ref r_SPACE), (.int 0), (.int 6), (.int 12)] ∧ Z.Warmed39 U.vm ∧ U.heap = h0) (fun _ _ _ _ _ => True) (fun _ U o U' => ∃ v L, o = .returned v ∧ Q4_r_SPACE_0_6_12 Z r_SPACE k_SPACE h0 n0 v U'.heap L ∧ FrameEnd U o U' L ({ frames := 0, cells := 0, slots := 0, locals := 0 } : Room).cells ({ frames := 0, cells := 0, slots := 0, locals := 0 } : Room).slots) := by
  refine MetFree.of_bodySF (plainFor_of_name pn_4) hisR ?_
  intro p e s m args below meth c s₁ Bd hml0 hP hK
  obtain ⟨rfl, hZ, hh⟩ := hP
  have hx := Bd.exec
  have hby := Bd.bytes
  have hml : c.maxLocals = 8 := hml0
  have hown : s.vm.findClass "java/util/Arrays" = some m.cls := findClass_of_methodNamed Bd.named
  have hnm := (name_of_methodNamed Bd.named Bd.method).1
  have X0 : Stand p l e ({ frames := 0, cells := 0, slots := 0, locals := 0 } : Room) s m #[(.ref r_SPACE), (.int 0), (.int 6), (.int 12)] below meth c s₁ [] 0 0 := Stand.of_body Bd
  have e0 : s₁.heap = h0 := by rw [← hh, Bd.state]; rfl
  have N0 := Fr.nil n0
  have pre0 : ∀ t, Steps p.tables e below (s₁.setTop (mkF m 0 #[.val (.ref r_SPACE), .val (.int 0), .val (.int 6), .val (.int 12), .unset, .unset, .unset, .unset] [])) t → Steps p.tables e below (s₁.setTop (entryFrame m #[(.ref r_SPACE), (.int 0), (.int 6), (.int 12)] 8)) t := fun t k => castTop (by first | (simp [entryFrame, mkF, argsToLocals, Value.category]; done) | rfl) k
  obtain ⟨fs, hr, hrun, hended, hW, hsame⟩ := X0.leave (v := some (.int 2)) (fun h => by rw [Bd.returns] at h; cases h)
  refine ⟨_, _, pre0 _ ?_, hrun, hended, _, _, rfl, ?_, ⟨_, rfl⟩, hW, hsame.mono (by decide) (by decide)⟩
  · show Steps p.tables e below (s₁.setTop (mkF m 0 #[.val (.ref r_SPACE), .val (.int 0), .val (.int 6), .val (.int 12), .unset, .unset, .unset, .unset] [])) _
    refine XS.iloadN X0.here hx rfl (hb hby d4_0) rfl ?_
    show Steps p.tables e below (s₁.setTop (mkF m 1 #[.val (.ref r_SPACE), .val (.int 0), .val (.int 6), .val (.int 12), .unset, .unset, .unset, .unset] [(.int 0)])) _
    refine XS.istore X0.here hx rfl (hb hby d4_1) rfl (l' := #[.val (.ref r_SPACE), .val (.int 0), .val (.int 6), .val (.int 12), .val (.int 0), .unset, .unset, .unset]) rfl ?_
    show Steps p.tables e below (s₁.setTop (mkF m 3 #[.val (.ref r_SPACE), .val (.int 0), .val (.int 6), .val (.int 12), .val (.int 0), .unset, .unset, .unset] [])) _
    refine XS.iloadN X0.here hx rfl (hb hby d4_3) rfl ?_
    show Steps p.tables e below (s₁.setTop (mkF m 4 #[.val (.ref r_SPACE), .val (.int 0), .val (.int 6), .val (.int 12), .val (.int 0), .unset, .unset, .unset] [(.int 6)])) _
    refine XS.iconst X0.here hx rfl (hb hby d4_4) ?_
    show Steps p.tables e below (s₁.setTop (mkF m 5 #[.val (.ref r_SPACE), .val (.int 0), .val (.int 6), .val (.int 12), .val (.int 0), .unset, .unset, .unset] [(.int 1), (.int 6)])) _
    refine XS.isub X0.here hx rfl (hb hby d4_5) rfl ?_
    show Steps p.tables e below (s₁.setTop (mkF m 6 #[.val (.ref r_SPACE), .val (.int 0), .val (.int 6), .val (.int 12), .val (.int 0), .unset, .unset, .unset] [(.int ((6 : Int32) - (1 : Int32)))])) _
    rw [(by decide : ((6 : Int32) - (1 : Int32)) = (5 : Int32))]
    show Steps p.tables e below (s₁.setTop (mkF m 6 #[.val (.ref r_SPACE), .val (.int 0), .val (.int 6), .val (.int 12), .val (.int 0), .unset, .unset, .unset] [(.int 5)])) _
    refine XS.istore X0.here hx rfl (hb hby d4_6) rfl (l' := #[.val (.ref r_SPACE), .val (.int 0), .val (.int 6), .val (.int 12), .val (.int 0), .val (.int 5), .unset, .unset]) rfl ?_
    show Steps p.tables e below (s₁.setTop (mkF m 8 #[.val (.ref r_SPACE), .val (.int 0), .val (.int 6), .val (.int 12), .val (.int 0), .val (.int 5), .unset, .unset] [])) _
    refine XS.iload X0.here hx rfl (hb hby d4_8) rfl ?_
    show Steps p.tables e below (s₁.setTop (mkF m 10 #[.val (.ref r_SPACE), .val (.int 0), .val (.int 6), .val (.int 12), .val (.int 0), .val (.int 5), .unset, .unset] [(.int 0)])) _
    refine XS.iload X0.here hx rfl (hb hby d4_10) rfl ?_
    show Steps p.tables e below (s₁.setTop (mkF m 12 #[.val (.ref r_SPACE), .val (.int 0), .val (.int 6), .val (.int 12), .val (.int 0), .val (.int 5), .unset, .unset] [(.int 5), (.int 0)])) _
    refine XS.icmpNo X0.here hx rfl (hb hby d4_12) rfl (flt (by decide : ¬ ((5 : Int32) < (0 : Int32)))).2.2.1 ?_
    show Steps p.tables e below (s₁.setTop (mkF m 15 #[.val (.ref r_SPACE), .val (.int 0), .val (.int 6), .val (.int 12), .val (.int 0), .val (.int 5), .unset, .unset] [])) _
    refine XS.iload X0.here hx rfl (hb hby d4_15) rfl ?_
    show Steps p.tables e below (s₁.setTop (mkF m 17 #[.val (.ref r_SPACE), .val (.int 0), .val (.int 6), .val (.int 12), .val (.int 0), .val (.int 5), .unset, .unset] [(.int 0)])) _
    refine XS.iload X0.here hx rfl (hb hby d4_17) rfl ?_
    show Steps p.tables e below (s₁.setTop (mkF m 19 #[.val (.ref r_SPACE), .val (.int 0), .val (.int 6), .val (.int 12), .val (.int 0), .val (.int 5), .unset, .unset] [(.int 5), (.int 0)])) _
    refine XS.iadd X0.here hx rfl (hb hby d4_19) rfl ?_
    show Steps p.tables e below (s₁.setTop (mkF m 20 #[.val (.ref r_SPACE), .val (.int 0), .val (.int 6), .val (.int 12), .val (.int 0), .val (.int 5), .unset, .unset] [(.int ((0 : Int32) + (5 : Int32)))])) _
    rw [(by decide : ((0 : Int32) + (5 : Int32)) = (5 : Int32))]
    show Steps p.tables e below (s₁.setTop (mkF m 20 #[.val (.ref r_SPACE), .val (.int 0), .val (.int 6), .val (.int 12), .val (.int 0), .val (.int 5), .unset, .unset] [(.int 5)])) _
    refine XS.iconst X0.here hx rfl (hb hby d4_20) ?_
    show Steps p.tables e below (s₁.setTop (mkF m 21 #[.val (.ref r_SPACE), .val (.int 0), .val (.int 6), .val (.int 12), .val (.int 0), .val (.int 5), .unset, .unset] [(.int 1), (.int 5)])) _
    refine XS.iushr X0.here hx rfl (hb hby d4_21) rfl ?_
    show Steps p.tables e below (s₁.setTop (mkF m 22 #[.val (.ref r_SPACE), .val (.int 0), .val (.int 6), .val (.int 12), .val (.int 0), .val (.int 5), .unset, .unset] [(.int (((5 : Int32).toUInt32 >>> ((1 : Int32) &&& 31).toUInt32).toInt32))])) _
    rw [(by decide : (((5 : Int32).toUInt32 >>> ((1 : Int32) &&& 31).toUInt32).toInt32) = (2 : Int32))]
    show Steps p.tables e below (s₁.setTop (mkF m 22 #[.val (.ref r_SPACE), .val (.int 0), .val (.int 6), .val (.int 12), .val (.int 0), .val (.int 5), .unset, .unset] [(.int 2)])) _
    refine XS.istore X0.here hx rfl (hb hby d4_22) rfl (l' := #[.val (.ref r_SPACE), .val (.int 0), .val (.int 6), .val (.int 12), .val (.int 0), .val (.int 5), .val (.int 2), .unset]) rfl ?_
    show Steps p.tables e below (s₁.setTop (mkF m 24 #[.val (.ref r_SPACE), .val (.int 0), .val (.int 6), .val (.int 12), .val (.int 0), .val (.int 5), .val (.int 2), .unset] [])) _
    refine XS.aloadN X0.here hx rfl (hb hby d4_24) rfl rfl ?_
    show Steps p.tables e below (s₁.setTop (mkF m 25 #[.val (.ref r_SPACE), .val (.int 0), .val (.int 6), .val (.int 12), .val (.int 0), .val (.int 5), .val (.int 2), .unset] [(.ref r_SPACE)])) _
    refine XS.iload X0.here hx rfl (hb hby d4_25) rfl ?_
    show Steps p.tables e below (s₁.setTop (mkF m 27 #[.val (.ref r_SPACE), .val (.int 0), .val (.int 6), .val (.int 12), .val (.int 0), .val (.int 5), .val (.int 2), .unset] [(.int 2), (.ref r_SPACE)])) _
    refine own_ldI X0 hx hZ e0 V_r_SPACE (j := (2 : Int32)) ⟨by decide, by decide⟩ rfl (g := (mkF m 27 #[.val (.ref r_SPACE), .val (.int 0), .val (.int 6), .val (.int 12), .val (.int 0), .val (.int 5), .val (.int 2), .unset] [(.int 2), (.ref r_SPACE)])) rfl rfl (hb hby d4_27) _ ?_
    show Steps p.tables e below (s₁.setTop (mkF m 28 #[.val (.ref r_SPACE), .val (.int 0), .val (.int 6), .val (.int 12), .val (.int 0), .val (.int 5), .val (.int 2), .unset] [(.int 12)])) _
    refine XS.istore X0.here hx rfl (hb hby d4_28) rfl (l' := #[.val (.ref r_SPACE), .val (.int 0), .val (.int 6), .val (.int 12), .val (.int 0), .val (.int 5), .val (.int 2), .val (.int 12)]) rfl ?_
    show Steps p.tables e below (s₁.setTop (mkF m 30 #[.val (.ref r_SPACE), .val (.int 0), .val (.int 6), .val (.int 12), .val (.int 0), .val (.int 5), .val (.int 2), .val (.int 12)] [])) _
    refine XS.iload X0.here hx rfl (hb hby d4_30) rfl ?_
    show Steps p.tables e below (s₁.setTop (mkF m 32 #[.val (.ref r_SPACE), .val (.int 0), .val (.int 6), .val (.int 12), .val (.int 0), .val (.int 5), .val (.int 2), .val (.int 12)] [(.int 12)])) _
    refine XS.iloadN X0.here hx rfl (hb hby d4_32) rfl ?_
    show Steps p.tables e below (s₁.setTop (mkF m 33 #[.val (.ref r_SPACE), .val (.int 0), .val (.int 6), .val (.int 12), .val (.int 0), .val (.int 5), .val (.int 2), .val (.int 12)] [(.int 12), (.int 12)])) _
    refine XS.icmpYes X0.here hx rfl (pc0 := 33) (pc' := 45) rfl (hb hby d4_33) rfl (flt (by decide : ¬ ((12 : Int32) < (12 : Int32)))).2.1 (by decide) (by decide) ?_
    show Steps p.tables e below (s₁.setTop (mkF m 45 #[.val (.ref r_SPACE), .val (.int 0), .val (.int 6), .val (.int 12), .val (.int 0), .val (.int 5), .val (.int 2), .val (.int 12)] [])) _
    refine XS.iload X0.here hx rfl (hb hby d4_45) rfl ?_
    show Steps p.tables e below (s₁.setTop (mkF m 47 #[.val (.ref r_SPACE), .val (.int 0), .val (.int 6), .val (.int 12), .val (.int 0), .val (.int 5), .val (.int 2), .val (.int 12)] [(.int 12)])) _
    refine XS.iloadN X0.here hx rfl (hb hby d4_47) rfl ?_
    show Steps p.tables e below (s₁.setTop (mkF m 48 #[.val (.ref r_SPACE), .val (.int 0), .val (.int 6), .val (.int 12), .val (.int 0), .val (.int 5), .val (.int 2), .val (.int 12)] [(.int 12), (.int 12)])) _
    refine XS.icmpYes X0.here hx rfl (pc0 := 48) (pc' := 60) rfl (hb hby d4_48) rfl (flt (by decide : ¬ ((12 : Int32) < (12 : Int32)))).2.2.2 (by decide) (by decide) ?_
    show Steps p.tables e below (s₁.setTop (mkF m 60 #[.val (.ref r_SPACE), .val (.int 0), .val (.int 6), .val (.int 12), .val (.int 0), .val (.int 5), .val (.int 2), .val (.int 12)] [])) _
    refine XS.iload X0.here hx rfl (hb hby d4_60) rfl ?_
    show Steps p.tables e below (s₁.setTop (mkF m 62 #[.val (.ref r_SPACE), .val (.int 0), .val (.int 6), .val (.int 12), .val (.int 0), .val (.int 5), .val (.int 2), .val (.int 12)] [(.int 2)])) _
    exact retI X0 hx Bd.returns (hb hby d4_62) hr
  · show Q4_r_SPACE_0_6_12 Z r_SPACE k_SPACE h0 n0 _ s₁.heap _
    rw [e0]
    exact ⟨rfl, N0, rfl⟩
def Q3_r_SPACE_12 (Z : State) (r_SPACE : Addr) (k_SPACE : ClassId) (h0 : Heap) (n0 : Nat) (v : Option Value) (h : Heap) (L : List Loc) : Prop := v = some (.int 2) ∧ Fr n0 L ∧ h = h0
set_option maxRecDepth 65536 in
set_option maxHeartbeats 40000000 in
theorem rm3_r_SPACE_12 (l : Launch) (Z : State) (a0 : Array Value) (hw : ∀ d ∈ tables_1, d.before a0 Z = true) (ws : List Jvm.Cond) (r_SPACE : Addr) (k_SPACE : ClassId) (h0 : Heap) (n0 : Nat) (Z0 : n0 ≤ h0.size) (V_r_SPACE : Arv Z h0 r_SPACE k_SPACE .int (6 : Int32) [(.int 9), (.int 10), (.int 12), (.int 13), (.int 32), (.int 32)] (.int (0 : Int32))) :
    MetFree l (⟨"java/util/Arrays", "binarySearch", "([II)I"⟩ : MethodName) (head1 (Jvm.Cond.code (⟨"java/util/Arrays", "binarySearch", "([II)I"⟩ : MethodName) jdk_65_method_57_code 2 (some .int) :: ws) ({ frames := 1, cells := 0, slots := 0, locals := 19 } : Room)) (fun a U => a = #[(.ref r_SPACE), (.int 12)] ∧ Z.Warmed39 U.vm ∧ U.heap = h0) (fun _ _ _ _ _ => True) (fun _ U o U' => ∃ v L, o = .returned v ∧ Q3_r_SPACE_12 Z r_SPACE k_SPACE h0 n0 v U'.heap L ∧ FrameEnd U o U' L ({ frames := 1, cells := 0, slots := 0, locals := 19 } : Room).cells ({ frames := 1, cells := 0, slots := 0, locals := 19 } : Room).slots) := by
  refine MetFree.of_bodySF (plainFor_of_name pn_3) hisR ?_
  intro p e s m args below meth c s₁ Bd hml0 hP hK
  obtain ⟨rfl, hZ, hh⟩ := hP
  have hx := Bd.exec
  have hby := Bd.bytes
  have hml : c.maxLocals = 2 := hml0
  have hown : s.vm.findClass "java/util/Arrays" = some m.cls := findClass_of_methodNamed Bd.named
  have hnm := (name_of_methodNamed Bd.named Bd.method).1
  have X0 : Stand p l e ({ frames := 1, cells := 0, slots := 0, locals := 19 } : Room) s m #[(.ref r_SPACE), (.int 12)] below meth c s₁ [] 0 0 := Stand.of_body Bd
  have e0 : s₁.heap = h0 := by rw [← hh, Bd.state]; rfl
  have N0 := Fr.nil n0
  have pre0 : ∀ t, Steps p.tables e below (s₁.setTop (mkF m 0 #[.val (.ref r_SPACE), .val (.int 12)] [])) t → Steps p.tables e below (s₁.setTop (entryFrame m #[(.ref r_SPACE), (.int 12)] 2)) t := fun t k => castTop (by first | (simp [entryFrame, mkF, argsToLocals, Value.category]; done) | rfl) k
  obtain ⟨_, _, ⟨T1, L1, k1, n1⟩, -, X1, ⟨Lc1, hQ1, l1, y1, z1⟩, st1⟩ := Jvm.LawKit.callS X0 hx (y := (⟨"java/util/Arrays", "binarySearch0", "([IIII)I"⟩ : MethodName)) hown (mvT hZ (hw _ (List.mem_of_getElem? (i := 19) rfl))) (mvT hZ (hw _ (List.mem_of_getElem? (i := 20) rfl))) (mvT hZ (hw _ (List.mem_of_getElem? (i := 17) rfl))) (mvT hZ (hw _ (List.mem_of_getElem? (i := 21) rfl))) (by decide) (backOf (W := 0) (rm4_r_SPACE_0_6_12 l Z a0 hw [] r_SPACE k_SPACE h0 n0 Z0 V_r_SPACE) hZ (hw _ (List.mem_of_getElem? (i := 21) rfl)) (hw _ (List.mem_of_getElem? (i := 17) rfl)) (by decide) (by decide)) (g := (mkF m 5 #[.val (.ref r_SPACE), .val (.int 12)] [(.int 12), (.int 6), (.int 0), (.ref r_SPACE)])) rfl (by rw [hml]; rfl) (argsL := [(.ref r_SPACE), (.int 0), (.int 6), (.int 12)]) (rest := []) (lenOf pd___IIII_I rfl) rfl (by show 2 * 0 + _ ≤ _; exact Nat.le_of_eq rfl) (hb hby d3_5) (fun _ _ => ⟨rfl, e0, (by decide : 0 + 0 ≤ _), (by decide : 0 + 0 ≤ _)⟩)
  dsimp only [Pt.U, Pt.locs, Pt.cells, Pt.slots] at X1 l1 y1 z1 st1 hQ1
  subst l1 y1 z1
  obtain ⟨rfl, N1q, e1⟩ := hQ1
  have N1 := Fr.app N0 N1q
  obtain ⟨fs, hr, hrun, hended, hW, hsame⟩ := X1.leave (v := some (.int 2)) (fun h => by rw [Bd.returns] at h; cases h)
  refine ⟨_, _, pre0 _ ?_, hrun, hended, _, _, rfl, ?_, ⟨_, rfl⟩, hW, hsame.mono (by decide) (by decide)⟩
  · show Steps p.tables e below (s₁.setTop (mkF m 0 #[.val (.ref r_SPACE), .val (.int 12)] [])) _
    refine XS.aloadN X0.here hx rfl (hb hby d3_0) rfl rfl ?_
    show Steps p.tables e below (s₁.setTop (mkF m 1 #[.val (.ref r_SPACE), .val (.int 12)] [(.ref r_SPACE)])) _
    refine XS.iconst X0.here hx rfl (hb hby d3_1) ?_
    show Steps p.tables e below (s₁.setTop (mkF m 2 #[.val (.ref r_SPACE), .val (.int 12)] [(.int 0), (.ref r_SPACE)])) _
    refine XS.aloadN X0.here hx rfl (hb hby d3_2) rfl rfl ?_
    show Steps p.tables e below (s₁.setTop (mkF m 3 #[.val (.ref r_SPACE), .val (.int 12)] [(.ref r_SPACE), (.int 0), (.ref r_SPACE)])) _
    refine own_lenz X0 hx hZ e0 V_r_SPACE (g := (mkF m 3 #[.val (.ref r_SPACE), .val (.int 12)] [(.ref r_SPACE), (.int 0), (.ref r_SPACE)])) rfl rfl (hb hby d3_3) _ ?_
    show Steps p.tables e below (s₁.setTop (mkF m 4 #[.val (.ref r_SPACE), .val (.int 12)] [(.int 6), (.int 0), (.ref r_SPACE)])) _
    refine XS.iloadN X0.here hx rfl (hb hby d3_4) rfl ?_
    show Steps p.tables e below (s₁.setTop (mkF m 5 #[.val (.ref r_SPACE), .val (.int 12)] [(.int 12), (.int 6), (.int 0), (.ref r_SPACE)])) _
    refine st1 _ ?_
    show Steps p.tables e below (T1.setTop (mkF m 8 #[.val (.ref r_SPACE), .val (.int 12)] [(.int 2)])) _
    exact retI X1 hx Bd.returns (hb hby d3_8) hr
  · show Q3_r_SPACE_12 Z r_SPACE k_SPACE h0 n0 _ T1.heap _
    rw [e1]
    exact ⟨rfl, N1, rfl⟩
def Q2_w_SPACE_12_all_SPACE (Z : State) (w_SPACE : Addr) (r_SPACE : Addr) (k_SPACE : ClassId) (h0 : Heap) (n0 : Nat) (v : Option Value) (h : Heap) (L : List Loc) : Prop := v = some (.int (own_s (12 : Int32))) ∧ Fr n0 L ∧ h = h0
set_option maxRecDepth 65536 in
set_option maxHeartbeats 40000000 in
theorem rm2_w_SPACE_12_all_SPACE (l : Launch) (Z : State) (a0 : Array Value) (hw : ∀ d ∈ tables_1, d.before a0 Z = true) (ws : List Jvm.Cond) (w_SPACE : Addr) (r_SPACE : Addr) (k_SPACE : ClassId) (h0 : Heap) (n0 : Nat) (Z0 : n0 ≤ h0.size) (F_ranges_w_SPACE : Fld Z h0 w_SPACE "com/example/termwell/termwell/core/text/CodePointSet" "ranges" "[I" (.ref r_SPACE)) (V_r_SPACE : Arv Z h0 r_SPACE k_SPACE .int (6 : Int32) [(.int 9), (.int 10), (.int 12), (.int 13), (.int 32), (.int 32)] (.int (0 : Int32))) (hret : (own_s (12 : Int32)) = (1 : Int32)) :
    MetFree l (⟨"com/example/termwell/termwell/core/text/CodePointSet", "contains", "(I)Z"⟩ : MethodName) (head1 (Jvm.Cond.code (⟨"com/example/termwell/termwell/core/text/CodePointSet", "contains", "(I)Z"⟩ : MethodName) prog_19_method_4_code 3 (some .boolean) :: ws) ({ frames := 2, cells := 0, slots := 0, locals := 32 } : Room)) (fun a U => a = #[(.ref w_SPACE), (.int 12)] ∧ Z.Warmed39 U.vm ∧ U.heap = h0) (fun _ _ _ _ _ => True) (fun _ U o U' => ∃ v L, o = .returned v ∧ Q2_w_SPACE_12_all_SPACE Z w_SPACE r_SPACE k_SPACE h0 n0 v U'.heap L ∧ FrameEnd U o U' L ({ frames := 2, cells := 0, slots := 0, locals := 32 } : Room).cells ({ frames := 2, cells := 0, slots := 0, locals := 32 } : Room).slots) := by
  refine MetFree.of_bodySF (plainFor_of_name pn_2) hisR ?_
  intro p e s m args below meth c s₁ Bd hml0 hP hK
  obtain ⟨rfl, hZ, hh⟩ := hP
  have hx := Bd.exec
  have hby := Bd.bytes
  have hml : c.maxLocals = 3 := hml0
  have hown : s.vm.findClass "com/example/termwell/termwell/core/text/CodePointSet" = some m.cls := findClass_of_methodNamed Bd.named
  have hnm := (name_of_methodNamed Bd.named Bd.method).1
  have X0 : Stand p l e ({ frames := 2, cells := 0, slots := 0, locals := 32 } : Room) s m #[(.ref w_SPACE), (.int 12)] below meth c s₁ [] 0 0 := Stand.of_body Bd
  have e0 : s₁.heap = h0 := by rw [← hh, Bd.state]; rfl
  have N0 := Fr.nil n0
  have pre0 : ∀ t, Steps p.tables e below (s₁.setTop (mkF m 0 #[.val (.ref w_SPACE), .val (.int 12), .unset] [])) t → Steps p.tables e below (s₁.setTop (entryFrame m #[(.ref w_SPACE), (.int 12)] 3)) t := fun t k => castTop (by first | (simp [entryFrame, mkF, argsToLocals, Value.category]; done) | rfl) k
  obtain ⟨T1, X1, e1, st1⟩ := getF X0 hx hZ hown (host := "") (Or.inl (hw _ (List.mem_of_getElem? (i := 13) rfl))) Via.refl e0 F_ranges_w_SPACE (g := (mkF m 1 #[.val (.ref w_SPACE), .val (.int 12), .unset] [(.ref w_SPACE)])) rfl rfl (hb hby d2_1)
  obtain ⟨_, _, ⟨T2, L2, k2, n2⟩, -, X2, ⟨Lc2, hQ2, l2, y2, z2⟩, st2⟩ := Jvm.LawKit.callS X1 hx (y := (⟨"java/util/Arrays", "binarySearch", "([II)I"⟩ : MethodName)) hown (mvT hZ (hw _ (List.mem_of_getElem? (i := 15) rfl))) (mvT hZ (hw _ (List.mem_of_getElem? (i := 16) rfl))) (mvT hZ (hw _ (List.mem_of_getElem? (i := 17) rfl))) (mvT hZ (hw _ (List.mem_of_getElem? (i := 18) rfl))) (by decide) (backOf (W := 0) (rm3_r_SPACE_12 l Z a0 hw [] r_SPACE k_SPACE h0 n0 Z0 V_r_SPACE) hZ (hw _ (List.mem_of_getElem? (i := 18) rfl)) (hw _ (List.mem_of_getElem? (i := 17) rfl)) (by decide) (by decide)) (g := (mkF m 5 #[.val (.ref w_SPACE), .val (.int 12), .unset] [(.int 12), (.ref r_SPACE)])) rfl (by rw [hml]; rfl) (argsL := [(.ref r_SPACE), (.int 12)]) (rest := []) (lenOf pd___II_I rfl) rfl (by show 2 * 0 + _ ≤ _; exact Nat.le_of_eq rfl) (hb hby d2_5) (fun _ _ => ⟨rfl, e1, (by decide : 0 + 0 ≤ _), (by decide : 0 + 0 ≤ _)⟩)
  dsimp only [Pt.U, Pt.locs, Pt.cells, Pt.slots] at X2 l2 y2 z2 st2 hQ2
  subst l2 y2 z2
  obtain ⟨rfl, N2q, e2⟩ := hQ2
  have N2 := Fr.app N0 N2q
  obtain ⟨fs, hr, hrun, hended, hW, hsame⟩ := X2.leave (v := some (.int 1)) (fun h => by rw [Bd.returns] at h; cases h)
  refine ⟨_, _, pre0 _ ?_, hrun, hended, _, _, rfl, ?_, ⟨_, rfl⟩, hW, hsame.mono (by decide) (by decide)⟩
  · show Steps p.tables e below (s₁.setTop (mkF m 0 #[.val (.ref w_SPACE), .val (.int 12), .unset] [])) _
    refine XS.aloadN X0.here hx rfl (hb hby d2_0) rfl rfl ?_
    show Steps p.tables e below (s₁.setTop (mkF m 1 #[.val (.ref w_SPACE), .val (.int 12), .unset] [(.ref w_SPACE)])) _
    refine st1 _ ?_
    show Steps p.tables e below (T1.setTop (mkF m 4 #[.val (.ref w_SPACE), .val (.int 12), .unset] [(.ref r_SPACE)])) _
    refine XS.iloadN X1.here hx rfl (hb hby d2_4) rfl ?_
    show Steps p.tables e below (T1.setTop (mkF m 5 #[.val (.ref w_SPACE), .val (.int 12), .unset] [(.int 12), (.ref r_SPACE)])) _
    refine st2 _ ?_
    show Steps p.tables e below (T2.setTop (mkF m 8 #[.val (.ref w_SPACE), .val (.int 12), .unset] [(.int 2)])) _
    refine XS.istoreN X2.here hx rfl (hb hby d2_8) rfl (l' := #[.val (.ref w_SPACE), .val (.int 12), .val (.int 2)]) rfl ?_
    show Steps p.tables e below (T2.setTop (mkF m 9 #[.val (.ref w_SPACE), .val (.int 12), .val (.int 2)] [])) _
    refine XS.iloadN X2.here hx rfl (hb hby d2_9) rfl ?_
    show Steps p.tables e below (T2.setTop (mkF m 10 #[.val (.ref w_SPACE), .val (.int 12), .val (.int 2)] [(.int 2)])) _
    refine XS.ifYes X2.here hx rfl (pc0 := 10) (pc' := 23) rfl (hb hby d2_10) rfl ((if0 _ _).trans (flt (by decide : ¬ ((2 : Int32) < (0 : Int32)))).2.1) (by decide) (by decide) ?_
    show Steps p.tables e below (T2.setTop (mkF m 23 #[.val (.ref w_SPACE), .val (.int 12), .val (.int 2)] [])) _
    refine XS.iconst X2.here hx rfl (hb hby d2_23) ?_
    show Steps p.tables e below (T2.setTop (mkF m 24 #[.val (.ref w_SPACE), .val (.int 12), .val (.int 2)] [(.int 1)])) _
    refine XS.goto X2.here hx rfl (pc0 := 24) (pc' := 28) rfl (hb hby d2_24) (by decide) (by decide) ?_
    show Steps p.tables e below (T2.setTop (mkF m 28 #[.val (.ref w_SPACE), .val (.int 12), .val (.int 2)] [(.int 1)])) _
    exact retN X2 hx (t := .boolean) Bd.returns (by simp) (hb hby d2_28) hr
  · show Q2_w_SPACE_12_all_SPACE Z w_SPACE r_SPACE k_SPACE h0 n0 _ T2.heap _
    rw [e2]
    exact ⟨(by rw [hret]), N2, rfl⟩
def Q4_r_SPACE_0_6_13 (Z : State) (r_SPACE : Addr) (k_SPACE : ClassId) (h0 : Heap) (n0 : Nat) (v : Option Value) (h : Heap) (L : List Loc) : Prop := v = some (.int 3) ∧ Fr n0 L ∧ h = h0
set_option maxRecDepth 65536 in
set_option maxHeartbeats 40000000 in
theorem rm4_r_SPACE_0_6_13 (l : Launch) (Z : State) (a0 : Array Value) (hw : ∀ d ∈ tables_1, d.before a0 Z = true) (ws : List Jvm.Cond) (r_SPACE : Addr) (k_SPACE : ClassId) (h0 : Heap) (n0 : Nat) (Z0 : n0 ≤ h0.size) (V_r_SPACE : Arv Z h0 r_SPACE k_SPACE .int (6 : Int32) [(.int 9), (.int 10), (.int 12), (.int 13), (.int 32), (.int 32)] (.int (0 : Int32))) :
    MetFree l (⟨"java/util/Arrays", "binarySearch0", "([IIII)I"⟩ : MethodName) (head1 (Jvm.Cond.code (⟨"java/util/Arrays", "binarySearch0", "([IIII)I"⟩ : MethodName) jdk_65_method_59_code 8 (some .int) :: ws) ({ frames := 0, cells := 0, slots := 0, locals := 0 } : Room)) (fun a U => a = #[(.ref r_SPACE), (.int 0), (.int 6), (.int 13)] ∧ Z.Warmed39 U.vm ∧ U.heap = h0) (fun _ _ _ _ _ => True) (fun _ U o U' => ∃ v L, o = .returned v ∧ Q4_r_SPACE_0_6_13 Z r_SPACE k_SPACE h0 n0 v U'.heap L ∧ FrameEnd U o U' L ({ frames := 0, cells := 0, slots := 0, locals := 0 } : Room).cells ({ frames := 0, cells := 0, slots := 0, locals := 0 } : Room).slots) := by
  refine MetFree.of_bodySF (plainFor_of_name pn_4) hisR ?_
  intro p e s m args below meth c s₁ Bd hml0 hP hK
  obtain ⟨rfl, hZ, hh⟩ := hP
  have hx := Bd.exec
  have hby := Bd.bytes
  have hml : c.maxLocals = 8 := hml0
  have hown : s.vm.findClass "java/util/Arrays" = some m.cls := findClass_of_methodNamed Bd.named
  have hnm := (name_of_methodNamed Bd.named Bd.method).1
  have X0 : Stand p l e ({ frames := 0, cells := 0, slots := 0, locals := 0 } : Room) s m #[(.ref r_SPACE), (.int 0), (.int 6), (.int 13)] below meth c s₁ [] 0 0 := Stand.of_body Bd
  have e0 : s₁.heap = h0 := by rw [← hh, Bd.state]; rfl
  have N0 := Fr.nil n0
  have pre0 : ∀ t, Steps p.tables e below (s₁.setTop (mkF m 0 #[.val (.ref r_SPACE), .val (.int 0), .val (.int 6), .val (.int 13), .unset, .unset, .unset, .unset] [])) t → Steps p.tables e below (s₁.setTop (entryFrame m #[(.ref r_SPACE), (.int 0), (.int 6), (.int 13)] 8)) t := fun t k => castTop (by first | (simp [entryFrame, mkF, argsToLocals, Value.category]; done) | rfl) k
  obtain ⟨fs, hr, hrun, hended, hW, hsame⟩ := X0.leave (v := some (.int 3)) (fun h => by rw [Bd.returns] at h; cases h)
  refine ⟨_, _, pre0 _ ?_, hrun, hended, _, _, rfl, ?_, ⟨_, rfl⟩, hW, hsame.mono (by decide) (by decide)⟩
  · show Steps p.tables e below (s₁.setTop (mkF m 0 #[.val (.ref r_SPACE), .val (.int 0), .val (.int 6), .val (.int 13), .unset, .unset, .unset, .unset] [])) _
    refine XS.iloadN X0.here hx rfl (hb hby d4_0) rfl ?_
    show Steps p.tables e below (s₁.setTop (mkF m 1 #[.val (.ref r_SPACE), .val (.int 0), .val (.int 6), .val (.int 13), .unset, .unset, .unset, .unset] [(.int 0)])) _
    refine XS.istore X0.here hx rfl (hb hby d4_1) rfl (l' := #[.val (.ref r_SPACE), .val (.int 0), .val (.int 6), .val (.int 13), .val (.int 0), .unset, .unset, .unset]) rfl ?_
    show Steps p.tables e below (s₁.setTop (mkF m 3 #[.val (.ref r_SPACE), .val (.int 0), .val (.int 6), .val (.int 13), .val (.int 0), .unset, .unset, .unset] [])) _
    refine XS.iloadN X0.here hx rfl (hb hby d4_3) rfl ?_
    show Steps p.tables e below (s₁.setTop (mkF m 4 #[.val (.ref r_SPACE), .val (.int 0), .val (.int 6), .val (.int 13), .val (.int 0), .unset, .unset, .unset] [(.int 6)])) _
    refine XS.iconst X0.here hx rfl (hb hby d4_4) ?_
    show Steps p.tables e below (s₁.setTop (mkF m 5 #[.val (.ref r_SPACE), .val (.int 0), .val (.int 6), .val (.int 13), .val (.int 0), .unset, .unset, .unset] [(.int 1), (.int 6)])) _
    refine XS.isub X0.here hx rfl (hb hby d4_5) rfl ?_
    show Steps p.tables e below (s₁.setTop (mkF m 6 #[.val (.ref r_SPACE), .val (.int 0), .val (.int 6), .val (.int 13), .val (.int 0), .unset, .unset, .unset] [(.int ((6 : Int32) - (1 : Int32)))])) _
    rw [(by decide : ((6 : Int32) - (1 : Int32)) = (5 : Int32))]
    show Steps p.tables e below (s₁.setTop (mkF m 6 #[.val (.ref r_SPACE), .val (.int 0), .val (.int 6), .val (.int 13), .val (.int 0), .unset, .unset, .unset] [(.int 5)])) _
    refine XS.istore X0.here hx rfl (hb hby d4_6) rfl (l' := #[.val (.ref r_SPACE), .val (.int 0), .val (.int 6), .val (.int 13), .val (.int 0), .val (.int 5), .unset, .unset]) rfl ?_
    show Steps p.tables e below (s₁.setTop (mkF m 8 #[.val (.ref r_SPACE), .val (.int 0), .val (.int 6), .val (.int 13), .val (.int 0), .val (.int 5), .unset, .unset] [])) _
    refine tnLu r_SPACE (0 : Int32) (6 : Int32) (13 : Int32) (0 : Int32) (5 : Int32) (2 : Int32) k_SPACE (6 : Int32) [(.int 9), (.int 10), (.int 12), (.int 13), (.int 32), (.int 32)] (.int (0 : Int32)) (12 : Int32) (3 : Int32) X0 hx hZ hby e0 (by decide) (by decide) V_r_SPACE ⟨by decide, by decide⟩ rfl (by decide) (by decide) _ ?_
    show Steps p.tables e below (s₁.setTop (mkF m 8 #[.val (.ref r_SPACE), .val (.int 0), .val (.int 6), .val (.int 13), .val (.int 3), .val (.int 5), .val (.int 2), .val (.int 12)] [])) _
    refine tnGv r_SPACE (0 : Int32) (6 : Int32) (13 : Int32) (3 : Int32) (5 : Int32) (2 : Int32) (12 : Int32) (4 : Int32) k_SPACE (6 : Int32) [(.int 9), (.int 10), (.int 12), (.int 13), (.int 32), (.int 32)] (.int (0 : Int32)) (32 : Int32) (3 : Int32) X0 hx hZ hby e0 (by decide) (by decide) V_r_SPACE ⟨by decide, by decide⟩ rfl (by decide) (by decide) (by decide) _ ?_
    show Steps p.tables e below (s₁.setTop (mkF m 8 #[.val (.ref r_SPACE), .val (.int 0), .val (.int 6), .val (.int 13), .val (.int 3), .val (.int 3), .val (.int 4), .val (.int 32)] [])) _
    refine XS.iload X0.here hx rfl (hb hby d4_8) rfl ?_
    show Steps p.tables e below (s₁.setTop (mkF m 10 #[.val (.ref r_SPACE), .val (.int 0), .val (.int 6), .val (.int 13), .val (.int 3), .val (.int 3), .val (.int 4), .val (.int 32)] [(.int 3)])) _
    refine XS.iload X0.here hx rfl (hb hby d4_10) rfl ?_
    show Steps p.tables e below (s₁.setTop (mkF m 12 #[.val (.ref r_SPACE), .val (.int 0), .val (.int 6), .val (.int 13), .val (.int 3), .val (.int 3), .val (.int 4), .val (.int 32)] [(.int 3), (.int 3)])) _
    refine XS.icmpNo X0.here hx rfl (hb hby d4_12) rfl (flt (by decide : ¬ ((3 : Int32) < (3 : Int32)))).2.2.1 ?_
    show Steps p.tables e below (s₁.setTop (mkF m 15 #[.val (.ref r_SPACE), .val (.int 0), .val (.int 6), .val (.int 13), .val (.int 3), .val (.int 3), .val (.int 4), .val (.int 32)] [])) _
    refine XS.iload X0.here hx rfl (hb hby d4_15) rfl ?_
    show Steps p.tables e below (s₁.setTop (mkF m 17 #[.val (.ref r_SPACE), .val (.int 0), .val (.int 6), .val (.int 13), .val (.int 3), .val (.int 3), .val (.int 4), .val (.int 32)] [(.int 3)])) _
    refine XS.iload X0.here hx rfl (hb hby d4_17) rfl ?_
    show Steps p.tables e below (s₁.setTop (mkF m 19 #[.val (.ref r_SPACE), .val (.int 0), .val (.int 6), .val (.int 13), .val (.int 3), .val (.int 3), .val (.int 4), .val (.int 32)] [(.int 3), (.int 3)])) _
    refine XS.iadd X0.here hx rfl (hb hby d4_19) rfl ?_
    show Steps p.tables e below (s₁.setTop (mkF m 20 #[.val (.ref r_SPACE), .val (.int 0), .val (.int 6), .val (.int 13), .val (.int 3), .val (.int 3), .val (.int 4), .val (.int 32)] [(.int ((3 : Int32) + (3 : Int32)))])) _
    rw [(by decide : ((3 : Int32) + (3 : Int32)) = (6 : Int32))]
    show Steps p.tables e below (s₁.setTop (mkF m 20 #[.val (.ref r_SPACE), .val (.int 0), .val (.int 6), .val (.int 13), .val (.int 3), .val (.int 3), .val (.int 4), .val (.int 32)] [(.int 6)])) _
    refine XS.iconst X0.here hx rfl (hb hby d4_20) ?_
    show Steps p.tables e below (s₁.setTop (mkF m 21 #[.val (.ref r_SPACE), .val (.int 0), .val (.int 6), .val (.int 13), .val (.int 3), .val (.int 3), .val (.int 4), .val (.int 32)] [(.int 1), (.int 6)])) _
    refine XS.iushr X0.here hx rfl (hb hby d4_21) rfl ?_
    show Steps p.tables e below (s₁.setTop (mkF m 22 #[.val (.ref r_SPACE), .val (.int 0), .val (.int 6), .val (.int 13), .val (.int 3), .val (.int 3), .val (.int 4), .val (.int 32)] [(.int (((6 : Int32).toUInt32 >>> ((1 : Int32) &&& 31).toUInt32).toInt32))])) _
    rw [(by decide : (((6 : Int32).toUInt32 >>> ((1 : Int32) &&& 31).toUInt32).toInt32) = (3 : Int32))]
    show Steps p.tables e below (s₁.setTop (mkF m 22 #[.val (.ref r_SPACE), .val (.int 0), .val (.int 6), .val (.int 13), .val (.int 3), .val (.int 3), .val (.int 4), .val (.int 32)] [(.int 3)])) _
    refine XS.istore X0.here hx rfl (hb hby d4_22) rfl (l' := #[.val (.ref r_SPACE), .val (.int 0), .val (.int 6), .val (.int 13), .val (.int 3), .val (.int 3), .val (.int 3), .val (.int 32)]) rfl ?_
    show Steps p.tables e below (s₁.setTop (mkF m 24 #[.val (.ref r_SPACE), .val (.int 0), .val (.int 6), .val (.int 13), .val (.int 3), .val (.int 3), .val (.int 3), .val (.int 32)] [])) _
    refine XS.aloadN X0.here hx rfl (hb hby d4_24) rfl rfl ?_
    show Steps p.tables e below (s₁.setTop (mkF m 25 #[.val (.ref r_SPACE), .val (.int 0), .val (.int 6), .val (.int 13), .val (.int 3), .val (.int 3), .val (.int 3), .val (.int 32)] [(.ref r_SPACE)])) _
    refine XS.iload X0.here hx rfl (hb hby d4_25) rfl ?_
    show Steps p.tables e below (s₁.setTop (mkF m 27 #[.val (.ref r_SPACE), .val (.int 0), .val (.int 6), .val (.int 13), .val (.int 3), .val (.int 3), .val (.int 3), .val (.int 32)] [(.int 3), (.ref r_SPACE)])) _
    refine own_ldI X0 hx hZ e0 V_r_SPACE (j := (3 : Int32)) ⟨by decide, by decide⟩ rfl (g := (mkF m 27 #[.val (.ref r_SPACE), .val (.int 0), .val (.int 6), .val (.int 13), .val (.int 3), .val (.int 3), .val (.int 3), .val (.int 32)] [(.int 3), (.ref r_SPACE)])) rfl rfl (hb hby d4_27) _ ?_
    show Steps p.tables e below (s₁.setTop (mkF m 28 #[.val (.ref r_SPACE), .val (.int 0), .val (.int 6), .val (.int 13), .val (.int 3), .val (.int 3), .val (.int 3), .val (.int 32)] [(.int 13)])) _
    refine XS.istore X0.here hx rfl (hb hby d4_28) rfl (l' := #[.val (.ref r_SPACE), .val (.int 0), .val (.int 6), .val (.int 13), .val (.int 3), .val (.int 3), .val (.int 3), .val (.int 13)]) rfl ?_
    show Steps p.tables e below (s₁.setTop (mkF m 30 #[.val (.ref r_SPACE), .val (.int 0), .val (.int 6), .val (.int 13), .val (.int 3), .val (.int 3), .val (.int 3), .val (.int 13)] [])) _
    refine XS.iload X0.here hx rfl (hb hby d4_30) rfl ?_
    show Steps p.tables e below (s₁.setTop (mkF m 32 #[.val (.ref r_SPACE), .val (.int 0), .val (.int 6), .val (.int 13), .val (.int 3), .val (.int 3), .val (.int 3), .val (.int 13)] [(.int 13)])) _
    refine XS.iloadN X0.here hx rfl (hb hby d4_32) rfl ?_
    show Steps p.tables e below (s₁.setTop (mkF m 33 #[.val (.ref r_SPACE), .val (.int 0), .val (.int 6), .val (.int 13), .val (.int 3), .val (.int 3), .val (.int 3), .val (.int 13)] [(.int 13), (.int 13)])) _
    refine XS.icmpYes X0.here hx rfl (pc0 := 33) (pc' := 45) rfl (hb hby d4_33) rfl (flt (by decide : ¬ ((13 : Int32) < (13 : Int32)))).2.1 (by decide) (by decide) ?_
    show Steps p.tables e below (s₁.setTop (mkF m 45 #[.val (.ref r_SPACE), .val (.int 0), .val (.int 6), .val (.int 13), .val (.int 3), .val (.int 3), .val (.int 3), .val (.int 13)] [])) _
    refine XS.iload X0.here hx rfl (hb hby d4_45) rfl ?_
    show Steps p.tables e below (s₁.setTop (mkF m 47 #[.val (.ref r_SPACE), .val (.int 0), .val (.int 6), .val (.int 13), .val (.int 3), .val (.int 3), .val (.int 3), .val (.int 13)] [(.int 13)])) _
    refine XS.iloadN X0.here hx rfl (hb hby d4_47) rfl ?_
    show Steps p.tables e below (s₁.setTop (mkF m 48 #[.val (.ref r_SPACE), .val (.int 0), .val (.int 6), .val (.int 13), .val (.int 3), .val (.int 3), .val (.int 3), .val (.int 13)] [(.int 13), (.int 13)])) _
    refine XS.icmpYes X0.here hx rfl (pc0 := 48) (pc' := 60) rfl (hb hby d4_48) rfl (flt (by decide : ¬ ((13 : Int32) < (13 : Int32)))).2.2.2 (by decide) (by decide) ?_
    show Steps p.tables e below (s₁.setTop (mkF m 60 #[.val (.ref r_SPACE), .val (.int 0), .val (.int 6), .val (.int 13), .val (.int 3), .val (.int 3), .val (.int 3), .val (.int 13)] [])) _
    refine XS.iload X0.here hx rfl (hb hby d4_60) rfl ?_
    show Steps p.tables e below (s₁.setTop (mkF m 62 #[.val (.ref r_SPACE), .val (.int 0), .val (.int 6), .val (.int 13), .val (.int 3), .val (.int 3), .val (.int 3), .val (.int 13)] [(.int 3)])) _
    exact retI X0 hx Bd.returns (hb hby d4_62) hr
  · show Q4_r_SPACE_0_6_13 Z r_SPACE k_SPACE h0 n0 _ s₁.heap _
    rw [e0]
    exact ⟨rfl, N0, rfl⟩
def Q3_r_SPACE_13 (Z : State) (r_SPACE : Addr) (k_SPACE : ClassId) (h0 : Heap) (n0 : Nat) (v : Option Value) (h : Heap) (L : List Loc) : Prop := v = some (.int 3) ∧ Fr n0 L ∧ h = h0
set_option maxRecDepth 65536 in
set_option maxHeartbeats 40000000 in
theorem rm3_r_SPACE_13 (l : Launch) (Z : State) (a0 : Array Value) (hw : ∀ d ∈ tables_1, d.before a0 Z = true) (ws : List Jvm.Cond) (r_SPACE : Addr) (k_SPACE : ClassId) (h0 : Heap) (n0 : Nat) (Z0 : n0 ≤ h0.size) (V_r_SPACE : Arv Z h0 r_SPACE k_SPACE .int (6 : Int32) [(.int 9), (.int 10), (.int 12), (.int 13), (.int 32), (.int 32)] (.int (0 : Int32))) :
    MetFree l (⟨"java/util/Arrays", "binarySearch", "([II)I"⟩ : MethodName) (head1 (Jvm.Cond.code (⟨"java/util/Arrays", "binarySearch", "([II)I"⟩ : MethodName) jdk_65_method_57_code 2 (some .int) :: ws) ({ frames := 1, cells := 0, slots := 0, locals := 19 } : Room)) (fun a U => a = #[(.ref r_SPACE), (.int 13)] ∧ Z.Warmed39 U.vm ∧ U.heap = h0) (fun _ _ _ _ _ => True) (fun _ U o U' => ∃ v L, o = .returned v ∧ Q3_r_SPACE_13 Z r_SPACE k_SPACE h0 n0 v U'.heap L ∧ FrameEnd U o U' L ({ frames := 1, cells := 0, slots := 0, locals := 19 } : Room).cells ({ frames := 1, cells := 0, slots := 0, locals := 19 } : Room).slots) := by
  refine MetFree.of_bodySF (plainFor_of_name pn_3) hisR ?_
  intro p e s m args below meth c s₁ Bd hml0 hP hK
  obtain ⟨rfl, hZ, hh⟩ := hP
  have hx := Bd.exec
  have hby := Bd.bytes
  have hml : c.maxLocals = 2 := hml0
  have hown : s.vm.findClass "java/util/Arrays" = some m.cls := findClass_of_methodNamed Bd.named
  have hnm := (name_of_methodNamed Bd.named Bd.method).1
  have X0 : Stand p l e ({ frames := 1, cells := 0, slots := 0, locals := 19 } : Room) s m #[(.ref r_SPACE), (.int 13)] below meth c s₁ [] 0 0 := Stand.of_body Bd
  have e0 : s₁.heap = h0 := by rw [← hh, Bd.state]; rfl
  have N0 := Fr.nil n0
  have pre0 : ∀ t, Steps p.tables e below (s₁.setTop (mkF m 0 #[.val (.ref r_SPACE), .val (.int 13)] [])) t → Steps p.tables e below (s₁.setTop (entryFrame m #[(.ref r_SPACE), (.int 13)] 2)) t := fun t k => castTop (by first | (simp [entryFrame, mkF, argsToLocals, Value.category]; done) | rfl) k
  obtain ⟨_, _, ⟨T1, L1, k1, n1⟩, -, X1, ⟨Lc1, hQ1, l1, y1, z1⟩, st1⟩ := Jvm.LawKit.callS X0 hx (y := (⟨"java/util/Arrays", "binarySearch0", "([IIII)I"⟩ : MethodName)) hown (mvT hZ (hw _ (List.mem_of_getElem? (i := 19) rfl))) (mvT hZ (hw _ (List.mem_of_getElem? (i := 20) rfl))) (mvT hZ (hw _ (List.mem_of_getElem? (i := 17) rfl))) (mvT hZ (hw _ (List.mem_of_getElem? (i := 21) rfl))) (by decide) (backOf (W := 0) (rm4_r_SPACE_0_6_13 l Z a0 hw [] r_SPACE k_SPACE h0 n0 Z0 V_r_SPACE) hZ (hw _ (List.mem_of_getElem? (i := 21) rfl)) (hw _ (List.mem_of_getElem? (i := 17) rfl)) (by decide) (by decide)) (g := (mkF m 5 #[.val (.ref r_SPACE), .val (.int 13)] [(.int 13), (.int 6), (.int 0), (.ref r_SPACE)])) rfl (by rw [hml]; rfl) (argsL := [(.ref r_SPACE), (.int 0), (.int 6), (.int 13)]) (rest := []) (lenOf pd___IIII_I rfl) rfl (by show 2 * 0 + _ ≤ _; exact Nat.le_of_eq rfl) (hb hby d3_5) (fun _ _ => ⟨rfl, e0, (by decide : 0 + 0 ≤ _), (by decide : 0 + 0 ≤ _)⟩)
  dsimp only [Pt.U, Pt.locs, Pt.cells, Pt.slots] at X1 l1 y1 z1 st1 hQ1
  subst l1 y1 z1
  obtain ⟨rfl, N1q, e1⟩ := hQ1
  have N1 := Fr.app N0 N1q
  obtain ⟨fs, hr, hrun, hended, hW, hsame⟩ := X1.leave (v := some (.int 3)) (fun h => by rw [Bd.returns] at h; cases h)
  refine ⟨_, _, pre0 _ ?_, hrun, hended, _, _, rfl, ?_, ⟨_, rfl⟩, hW, hsame.mono (by decide) (by decide)⟩
  · show Steps p.tables e below (s₁.setTop (mkF m 0 #[.val (.ref r_SPACE), .val (.int 13)] [])) _
    refine XS.aloadN X0.here hx rfl (hb hby d3_0) rfl rfl ?_
    show Steps p.tables e below (s₁.setTop (mkF m 1 #[.val (.ref r_SPACE), .val (.int 13)] [(.ref r_SPACE)])) _
    refine XS.iconst X0.here hx rfl (hb hby d3_1) ?_
    show Steps p.tables e below (s₁.setTop (mkF m 2 #[.val (.ref r_SPACE), .val (.int 13)] [(.int 0), (.ref r_SPACE)])) _
    refine XS.aloadN X0.here hx rfl (hb hby d3_2) rfl rfl ?_
    show Steps p.tables e below (s₁.setTop (mkF m 3 #[.val (.ref r_SPACE), .val (.int 13)] [(.ref r_SPACE), (.int 0), (.ref r_SPACE)])) _
    refine own_lenz X0 hx hZ e0 V_r_SPACE (g := (mkF m 3 #[.val (.ref r_SPACE), .val (.int 13)] [(.ref r_SPACE), (.int 0), (.ref r_SPACE)])) rfl rfl (hb hby d3_3) _ ?_
    show Steps p.tables e below (s₁.setTop (mkF m 4 #[.val (.ref r_SPACE), .val (.int 13)] [(.int 6), (.int 0), (.ref r_SPACE)])) _
    refine XS.iloadN X0.here hx rfl (hb hby d3_4) rfl ?_
    show Steps p.tables e below (s₁.setTop (mkF m 5 #[.val (.ref r_SPACE), .val (.int 13)] [(.int 13), (.int 6), (.int 0), (.ref r_SPACE)])) _
    refine st1 _ ?_
    show Steps p.tables e below (T1.setTop (mkF m 8 #[.val (.ref r_SPACE), .val (.int 13)] [(.int 3)])) _
    exact retI X1 hx Bd.returns (hb hby d3_8) hr
  · show Q3_r_SPACE_13 Z r_SPACE k_SPACE h0 n0 _ T1.heap _
    rw [e1]
    exact ⟨rfl, N1, rfl⟩
def Q2_w_SPACE_13_all_SPACE (Z : State) (w_SPACE : Addr) (r_SPACE : Addr) (k_SPACE : ClassId) (h0 : Heap) (n0 : Nat) (v : Option Value) (h : Heap) (L : List Loc) : Prop := v = some (.int (own_s (13 : Int32))) ∧ Fr n0 L ∧ h = h0
set_option maxRecDepth 65536 in
set_option maxHeartbeats 40000000 in
theorem rm2_w_SPACE_13_all_SPACE (l : Launch) (Z : State) (a0 : Array Value) (hw : ∀ d ∈ tables_1, d.before a0 Z = true) (ws : List Jvm.Cond) (w_SPACE : Addr) (r_SPACE : Addr) (k_SPACE : ClassId) (h0 : Heap) (n0 : Nat) (Z0 : n0 ≤ h0.size) (F_ranges_w_SPACE : Fld Z h0 w_SPACE "com/example/termwell/termwell/core/text/CodePointSet" "ranges" "[I" (.ref r_SPACE)) (V_r_SPACE : Arv Z h0 r_SPACE k_SPACE .int (6 : Int32) [(.int 9), (.int 10), (.int 12), (.int 13), (.int 32), (.int 32)] (.int (0 : Int32))) (hret : (own_s (13 : Int32)) = (1 : Int32)) :
    MetFree l (⟨"com/example/termwell/termwell/core/text/CodePointSet", "contains", "(I)Z"⟩ : MethodName) (head1 (Jvm.Cond.code (⟨"com/example/termwell/termwell/core/text/CodePointSet", "contains", "(I)Z"⟩ : MethodName) prog_19_method_4_code 3 (some .boolean) :: ws) ({ frames := 2, cells := 0, slots := 0, locals := 32 } : Room)) (fun a U => a = #[(.ref w_SPACE), (.int 13)] ∧ Z.Warmed39 U.vm ∧ U.heap = h0) (fun _ _ _ _ _ => True) (fun _ U o U' => ∃ v L, o = .returned v ∧ Q2_w_SPACE_13_all_SPACE Z w_SPACE r_SPACE k_SPACE h0 n0 v U'.heap L ∧ FrameEnd U o U' L ({ frames := 2, cells := 0, slots := 0, locals := 32 } : Room).cells ({ frames := 2, cells := 0, slots := 0, locals := 32 } : Room).slots) := by
  refine MetFree.of_bodySF (plainFor_of_name pn_2) hisR ?_
  intro p e s m args below meth c s₁ Bd hml0 hP hK
  obtain ⟨rfl, hZ, hh⟩ := hP
  have hx := Bd.exec
  have hby := Bd.bytes
  have hml : c.maxLocals = 3 := hml0
  have hown : s.vm.findClass "com/example/termwell/termwell/core/text/CodePointSet" = some m.cls := findClass_of_methodNamed Bd.named
  have hnm := (name_of_methodNamed Bd.named Bd.method).1
  have X0 : Stand p l e ({ frames := 2, cells := 0, slots := 0, locals := 32 } : Room) s m #[(.ref w_SPACE), (.int 13)] below meth c s₁ [] 0 0 := Stand.of_body Bd
  have e0 : s₁.heap = h0 := by rw [← hh, Bd.state]; rfl
  have N0 := Fr.nil n0
  have pre0 : ∀ t, Steps p.tables e below (s₁.setTop (mkF m 0 #[.val (.ref w_SPACE), .val (.int 13), .unset] [])) t → Steps p.tables e below (s₁.setTop (entryFrame m #[(.ref w_SPACE), (.int 13)] 3)) t := fun t k => castTop (by first | (simp [entryFrame, mkF, argsToLocals, Value.category]; done) | rfl) k
  obtain ⟨T1, X1, e1, st1⟩ := getF X0 hx hZ hown (host := "") (Or.inl (hw _ (List.mem_of_getElem? (i := 13) rfl))) Via.refl e0 F_ranges_w_SPACE (g := (mkF m 1 #[.val (.ref w_SPACE), .val (.int 13), .unset] [(.ref w_SPACE)])) rfl rfl (hb hby d2_1)
  obtain ⟨_, _, ⟨T2, L2, k2, n2⟩, -, X2, ⟨Lc2, hQ2, l2, y2, z2⟩, st2⟩ := Jvm.LawKit.callS X1 hx (y := (⟨"java/util/Arrays", "binarySearch", "([II)I"⟩ : MethodName)) hown (mvT hZ (hw _ (List.mem_of_getElem? (i := 15) rfl))) (mvT hZ (hw _ (List.mem_of_getElem? (i := 16) rfl))) (mvT hZ (hw _ (List.mem_of_getElem? (i := 17) rfl))) (mvT hZ (hw _ (List.mem_of_getElem? (i := 18) rfl))) (by decide) (backOf (W := 0) (rm3_r_SPACE_13 l Z a0 hw [] r_SPACE k_SPACE h0 n0 Z0 V_r_SPACE) hZ (hw _ (List.mem_of_getElem? (i := 18) rfl)) (hw _ (List.mem_of_getElem? (i := 17) rfl)) (by decide) (by decide)) (g := (mkF m 5 #[.val (.ref w_SPACE), .val (.int 13), .unset] [(.int 13), (.ref r_SPACE)])) rfl (by rw [hml]; rfl) (argsL := [(.ref r_SPACE), (.int 13)]) (rest := []) (lenOf pd___II_I rfl) rfl (by show 2 * 0 + _ ≤ _; exact Nat.le_of_eq rfl) (hb hby d2_5) (fun _ _ => ⟨rfl, e1, (by decide : 0 + 0 ≤ _), (by decide : 0 + 0 ≤ _)⟩)
  dsimp only [Pt.U, Pt.locs, Pt.cells, Pt.slots] at X2 l2 y2 z2 st2 hQ2
  subst l2 y2 z2
  obtain ⟨rfl, N2q, e2⟩ := hQ2
  have N2 := Fr.app N0 N2q
  obtain ⟨fs, hr, hrun, hended, hW, hsame⟩ := X2.leave (v := some (.int 1)) (fun h => by rw [Bd.returns] at h; cases h)
  refine ⟨_, _, pre0 _ ?_, hrun, hended, _, _, rfl, ?_, ⟨_, rfl⟩, hW, hsame.mono (by decide) (by decide)⟩
  · show Steps p.tables e below (s₁.setTop (mkF m 0 #[.val (.ref w_SPACE), .val (.int 13), .unset] [])) _
    refine XS.aloadN X0.here hx rfl (hb hby d2_0) rfl rfl ?_
    show Steps p.tables e below (s₁.setTop (mkF m 1 #[.val (.ref w_SPACE), .val (.int 13), .unset] [(.ref w_SPACE)])) _
    refine st1 _ ?_
    show Steps p.tables e below (T1.setTop (mkF m 4 #[.val (.ref w_SPACE), .val (.int 13), .unset] [(.ref r_SPACE)])) _
    refine XS.iloadN X1.here hx rfl (hb hby d2_4) rfl ?_
    show Steps p.tables e below (T1.setTop (mkF m 5 #[.val (.ref w_SPACE), .val (.int 13), .unset] [(.int 13), (.ref r_SPACE)])) _
    refine st2 _ ?_
    show Steps p.tables e below (T2.setTop (mkF m 8 #[.val (.ref w_SPACE), .val (.int 13), .unset] [(.int 3)])) _
    refine XS.istoreN X2.here hx rfl (hb hby d2_8) rfl (l' := #[.val (.ref w_SPACE), .val (.int 13), .val (.int 3)]) rfl ?_
    show Steps p.tables e below (T2.setTop (mkF m 9 #[.val (.ref w_SPACE), .val (.int 13), .val (.int 3)] [])) _
    refine XS.iloadN X2.here hx rfl (hb hby d2_9) rfl ?_
    show Steps p.tables e below (T2.setTop (mkF m 10 #[.val (.ref w_SPACE), .val (.int 13), .val (.int 3)] [(.int 3)])) _
    refine XS.ifYes X2.here hx rfl (pc0 := 10) (pc' := 23) rfl (hb hby d2_10) rfl ((if0 _ _).trans (flt (by decide : ¬ ((3 : Int32) < (0 : Int32)))).2.1) (by decide) (by decide) ?_
    show Steps p.tables e below (T2.setTop (mkF m 23 #[.val (.ref w_SPACE), .val (.int 13), .val (.int 3)] [])) _
    refine XS.iconst X2.here hx rfl (hb hby d2_23) ?_
    show Steps p.tables e below (T2.setTop (mkF m 24 #[.val (.ref w_SPACE), .val (.int 13), .val (.int 3)] [(.int 1)])) _
    refine XS.goto X2.here hx rfl (pc0 := 24) (pc' := 28) rfl (hb hby d2_24) (by decide) (by decide) ?_
    show Steps p.tables e below (T2.setTop (mkF m 28 #[.val (.ref w_SPACE), .val (.int 13), .val (.int 3)] [(.int 1)])) _
    exact retN X2 hx (t := .boolean) Bd.returns (by simp) (hb hby d2_28) hr
  · show Q2_w_SPACE_13_all_SPACE Z w_SPACE r_SPACE k_SPACE h0 n0 _ T2.heap _
    rw [e2]
    exact ⟨(by rw [hret]), N2, rfl⟩
def Q4_r_SPACE_0_6_x_13_32 (Z : State) (r_SPACE : Addr) (x : Int32) (k_SPACE : ClassId) (h0 : Heap) (n0 : Nat) (v : Option Value) (h : Heap) (L : List Loc) : Prop := v = some (.int (-5)) ∧ Fr n0 L ∧ h = h0
set_option maxRecDepth 65536 in
set_option maxHeartbeats 40000000 in
theorem rm4_r_SPACE_0_6_x_13_32 (l : Launch) (Z : State) (a0 : Array Value) (hw : ∀ d ∈ tables_1, d.before a0 Z = true) (ws : List Jvm.Cond) (r_SPACE : Addr) (x : Int32) (k_SPACE : ClassId) (h0 : Heap) (n0 : Nat) (Z0 : n0 ≤ h0.size) (hlo_x : (13 : Int32) < x) (V_r_SPACE : Arv Z h0 r_SPACE k_SPACE .int (6 : Int32) [(.int 9), (.int 10), (.int 12), (.int 13), (.int 32), (.int 32)] (.int (0 : Int32))) (hhi_x : x < (32 : Int32)) :
    MetFree l (⟨"java/util/Arrays", "binarySearch0", "([IIII)I"⟩ : MethodName) (head1 (Jvm.Cond.code (⟨"java/util/Arrays", "binarySearch0", "([IIII)I"⟩ : MethodName) jdk_65_method_59_code 8 (some .int) :: ws) ({ frames := 0, cells := 0, slots := 0, locals := 0 } : Room)) (fun a U => a = #[(.ref r_SPACE), (.int 0), (.int 6), (.int x)] ∧ Z.Warmed39 U.vm ∧ U.heap = h0) (fun _ _ _ _ _ => True) (fun _ U o U' => ∃ v L, o = .returned v ∧ Q4_r_SPACE_0_6_x_13_32 Z r_SPACE x k_SPACE h0 n0 v U'.heap L ∧ FrameEnd U o U' L ({ frames := 0, cells := 0, slots := 0, locals := 0 } : Room).cells ({ frames := 0, cells := 0, slots := 0, locals := 0 } : Room).slots) := by
  refine MetFree.of_bodySF (plainFor_of_name pn_4) hisR ?_
  intro p e s m args below meth c s₁ Bd hml0 hP hK
  obtain ⟨rfl, hZ, hh⟩ := hP
  have hx := Bd.exec
  have hby := Bd.bytes
  have hml : c.maxLocals = 8 := hml0
  have hown : s.vm.findClass "java/util/Arrays" = some m.cls := findClass_of_methodNamed Bd.named
  have hnm := (name_of_methodNamed Bd.named Bd.method).1
  have X0 : Stand p l e ({ frames := 0, cells := 0, slots := 0, locals := 0 } : Room) s m #[(.ref r_SPACE), (.int 0), (.int 6), (.int x)] below meth c s₁ [] 0 0 := Stand.of_body Bd
  have e0 : s₁.heap = h0 := by rw [← hh, Bd.state]; rfl
  have N0 := Fr.nil n0
  have pre0 : ∀ t, Steps p.tables e below (s₁.setTop (mkF m 0 #[.val (.ref r_SPACE), .val (.int 0), .val (.int 6), .val (.int x), .unset, .unset, .unset, .unset] [])) t → Steps p.tables e below (s₁.setTop (entryFrame m #[(.ref r_SPACE), (.int 0), (.int 6), (.int x)] 8)) t := fun t k => castTop (by first | (simp [entryFrame, mkF, argsToLocals, Value.category]; done) | rfl) k
  obtain ⟨fs, hr, hrun, hended, hW, hsame⟩ := X0.leave (v := some (.int (-5))) (fun h => by rw [Bd.returns] at h; cases h)
  refine ⟨_, _, pre0 _ ?_, hrun, hended, _, _, rfl, ?_, ⟨_, rfl⟩, hW, hsame.mono (by decide) (by decide)⟩
  · show Steps p.tables e below (s₁.setTop (mkF m 0 #[.val (.ref r_SPACE), .val (.int 0), .val (.int 6), .val (.int x), .unset, .unset, .unset, .unset] [])) _
    refine XS.iloadN X0.here hx rfl (hb hby d4_0) rfl ?_
    show Steps p.tables e below (s₁.setTop (mkF m 1 #[.val (.ref r_SPACE), .val (.int 0), .val (.int 6), .val (.int x), .unset, .unset, .unset, .unset] [(.int 0)])) _
    refine XS.istore X0.here hx rfl (hb hby d4_1) rfl (l' := #[.val (.ref r_SPACE), .val (.int 0), .val (.int 6), .val (.int x), .val (.int 0), .unset, .unset, .unset]) rfl ?_
    show Steps p.tables e below (s₁.setTop (mkF m 3 #[.val (.ref r_SPACE), .val (.int 0), .val (.int 6), .val (.int x), .val (.int 0), .unset, .unset, .unset] [])) _
    refine XS.iloadN X0.here hx rfl (hb hby d4_3) rfl ?_
    show Steps p.tables e below (s₁.setTop (mkF m 4 #[.val (.ref r_SPACE), .val (.int 0), .val (.int 6), .val (.int x), .val (.int 0), .unset, .unset, .unset] [(.int 6)])) _
    refine XS.iconst X0.here hx rfl (hb hby d4_4) ?_
    show Steps p.tables e below (s₁.setTop (mkF m 5 #[.val (.ref r_SPACE), .val (.int 0), .val (.int 6), .val (.int x), .val (.int 0), .unset, .unset, .unset] [(.int 1), (.int 6)])) _
    refine XS.isub X0.here hx rfl (hb hby d4_5) rfl ?_
    show Steps p.tables e below (s₁.setTop (mkF m 6 #[.val (.ref r_SPACE), .val (.int 0), .val (.int 6), .val (.int x), .val (.int 0), .unset, .unset, .unset] [(.int ((6 : Int32) - (1 : Int32)))])) _
    rw [(by decide : ((6 : Int32) - (1 : Int32)) = (5 : Int32))]
    show Steps p.tables e below (s₁.setTop (mkF m 6 #[.val (.ref r_SPACE), .val (.int 0), .val (.int 6), .val (.int x), .val (.int 0), .unset, .unset, .unset] [(.int 5)])) _
    refine XS.istore X0.here hx rfl (hb hby d4_6) rfl (l' := #[.val (.ref r_SPACE), .val (.int 0), .val (.int 6), .val (.int x), .val (.int 0), .val (.int 5), .unset, .unset]) rfl ?_
    show Steps p.tables e below (s₁.setTop (mkF m 8 #[.val (.ref r_SPACE), .val (.int 0), .val (.int 6), .val (.int x), .val (.int 0), .val (.int 5), .unset, .unset] [])) _
    refine tnLu r_SPACE (0 : Int32) (6 : Int32) x (0 : Int32) (5 : Int32) (2 : Int32) k_SPACE (6 : Int32) [(.int 9), (.int 10), (.int 12), (.int 13), (.int 32), (.int 32)] (.int (0 : Int32)) (12 : Int32) (3 : Int32) X0 hx hZ hby e0 (by decide) (by decide) V_r_SPACE ⟨by decide, by decide⟩ rfl (own_gt hlo_x (by decide)) (by decide) _ ?_
    show Steps p.tables e below (s₁.setTop (mkF m 8 #[.val (.ref r_SPACE), .val (.int 0), .val (.int 6), .val (.int x), .val (.int 3), .val (.int 5), .val (.int 2), .val (.int 12)] [])) _
    refine tnGv r_SPACE (0 : Int32) (6 : Int32) x (3 : Int32) (5 : Int32) (2 : Int32) (12 : Int32) (4 : Int32) k_SPACE (6 : Int32) [(.int 9), (.int 10), (.int 12), (.int 13), (.int 32), (.int 32)] (.int (0 : Int32)) (32 : Int32) (3 : Int32) X0 hx hZ hby e0 (by decide) (by decide) V_r_SPACE ⟨by decide, by decide⟩ rfl (own_ngt hhi_x (by decide)) (own_lt hhi_x (by decide)) (by decide) _ ?_
    show Steps p.tables e below (s₁.setTop (mkF m 8 #[.val (.ref r_SPACE), .val (.int 0), .val (.int 6), .val (.int x), .val (.int 3), .val (.int 3), .val (.int 4), .val (.int 32)] [])) _
    refine tnLv r_SPACE (0 : Int32) (6 : Int32) x (3 : Int32) (3 : Int32) (4 : Int32) (32 : Int32) (3 : Int32) k_SPACE (6 : Int32) [(.int 9), (.int 10), (.int 12), (.int 13), (.int 32), (.int 32)] (.int (0 : Int32)) (13 : Int32) (4 : Int32) X0 hx hZ hby e0 (by decide) (by decide) V_r_SPACE ⟨by decide, by decide⟩ rfl (own_gt hlo_x (by decide)) (by decide) _ ?_
    show Steps p.tables e below (s₁.setTop (mkF m 8 #[.val (.ref r_SPACE), .val (.int 0), .val (.int 6), .val (.int x), .val (.int 4), .val (.int 3), .val (.int 3), .val (.int 13)] [])) _
    refine XS.iload X0.here hx rfl (hb hby d4_8) rfl ?_
    show Steps p.tables e below (s₁.setTop (mkF m 10 #[.val (.ref r_SPACE), .val (.int 0), .val (.int 6), .val (.int x), .val (.int 4), .val (.int 3), .val (.int 3), .val (.int 13)] [(.int 4)])) _
    refine XS.iload X0.here hx rfl (hb hby d4_10) rfl ?_
    show Steps p.tables e below (s₁.setTop (mkF m 12 #[.val (.ref r_SPACE), .val (.int 0), .val (.int 6), .val (.int x), .val (.int 4), .val (.int 3), .val (.int 3), .val (.int 13)] [(.int 3), (.int 4)])) _
    refine XS.icmpYes X0.here hx rfl (pc0 := 12) (pc' := 66) rfl (hb hby d4_12) rfl (tlt (by decide : (3 : Int32) < (4 : Int32))).2.2.1 (by decide) (by decide) ?_
    show Steps p.tables e below (s₁.setTop (mkF m 66 #[.val (.ref r_SPACE), .val (.int 0), .val (.int 6), .val (.int x), .val (.int 4), .val (.int 3), .val (.int 3), .val (.int 13)] [])) _
    refine XS.iload X0.here hx rfl (hb hby d4_66) rfl ?_
    show Steps p.tables e below (s₁.setTop (mkF m 68 #[.val (.ref r_SPACE), .val (.int 0), .val (.int 6), .val (.int x), .val (.int 4), .val (.int 3), .val (.int 3), .val (.int 13)] [(.int 4)])) _
    refine XS.iconst X0.here hx rfl (hb hby d4_68) ?_
    show Steps p.tables e below (s₁.setTop (mkF m 69 #[.val (.ref r_SPACE), .val (.int 0), .val (.int 6), .val (.int x), .val (.int 4), .val (.int 3), .val (.int 3), .val (.int 13)] [(.int 1), (.int 4)])) _
    refine XS.iadd X0.here hx rfl (hb hby d4_69) rfl ?_
    show Steps p.tables e below (s₁.setTop (mkF m 70 #[.val (.ref r_SPACE), .val (.int 0), .val (.int 6), .val (.int x), .val (.int 4), .val (.int 3), .val (.int 3), .val (.int 13)] [(.int ((4 : Int32) + (1 : Int32)))])) _
    rw [(by decide : ((4 : Int32) + (1 : Int32)) = (5 : Int32))]
    show Steps p.tables e below (s₁.setTop (mkF m 70 #[.val (.ref r_SPACE), .val (.int 0), .val (.int 6), .val (.int x), .val (.int 4), .val (.int 3), .val (.int 3), .val (.int 13)] [(.int 5)])) _
    refine XS.ineg X0.here hx rfl (hb hby d4_70) rfl ?_
    show Steps p.tables e below (s₁.setTop (mkF m 71 #[.val (.ref r_SPACE), .val (.int 0), .val (.int 6), .val (.int x), .val (.int 4), .val (.int 3), .val (.int 3), .val (.int 13)] [(.int (-(5 : Int32)))])) _
    rw [(by decide : (-(5 : Int32)) = (-5 : Int32))]
    show Steps p.tables e below (s₁.setTop (mkF m 71 #[.val (.ref r_SPACE), .val (.int 0), .val (.int 6), .val (.int x), .val (.int 4), .val (.int 3), .val (.int 3), .val (.int 13)] [(.int (-5))])) _
    exact retI X0 hx Bd.returns (hb hby d4_71) hr
  · show Q4_r_SPACE_0_6_x_13_32 Z r_SPACE x k_SPACE h0 n0 _ s₁.heap _
    rw [e0]
    exact ⟨rfl, N0, rfl⟩
def Q3_r_SPACE_x_13_32 (Z : State) (r_SPACE : Addr) (x : Int32) (k_SPACE : ClassId) (h0 : Heap) (n0 : Nat) (v : Option Value) (h : Heap) (L : List Loc) : Prop := v = some (.int (-5)) ∧ Fr n0 L ∧ h = h0
set_option maxRecDepth 65536 in
set_option maxHeartbeats 40000000 in
theorem rm3_r_SPACE_x_13_32 (l : Launch) (Z : State) (a0 : Array Value) (hw : ∀ d ∈ tables_1, d.before a0 Z = true) (ws : List Jvm.Cond) (r_SPACE : Addr) (x : Int32) (k_SPACE : ClassId) (h0 : Heap) (n0 : Nat) (Z0 : n0 ≤ h0.size) (V_r_SPACE : Arv Z h0 r_SPACE k_SPACE .int (6 : Int32) [(.int 9), (.int 10), (.int 12), (.int 13), (.int 32), (.int 32)] (.int (0 : Int32))) (hlo_x : (13 : Int32) < x) (hhi_x : x < (32 : Int32)) :
    MetFree l (⟨"java/util/Arrays", "binarySearch", "([II)I"⟩ : MethodName) (head1 (Jvm.Cond.code (⟨"java/util/Arrays", "binarySearch", "([II)I"⟩ : MethodName) jdk_65_method_57_code 2 (some .int) :: ws) ({ frames := 1, cells := 0, slots := 0, locals := 19 } : Room)) (fun a U => a = #[(.ref r_SPACE), (.int x)] ∧ Z.Warmed39 U.vm ∧ U.heap = h0) (fun _ _ _ _ _ => True) (fun _ U o U' => ∃ v L, o = .returned v ∧ Q3_r_SPACE_x_13_32 Z r_SPACE x k_SPACE h0 n0 v U'.heap L ∧ FrameEnd U o U' L ({ frames := 1, cells := 0, slots := 0, locals := 19 } : Room).cells ({ frames := 1, cells := 0, slots := 0, locals := 19 } : Room).slots) := by
  refine MetFree.of_bodySF (plainFor_of_name pn_3) hisR ?_
  intro p e s m args below meth c s₁ Bd hml0 hP hK
  obtain ⟨rfl, hZ, hh⟩ := hP
  have hx := Bd.exec
  have hby := Bd.bytes
  have hml : c.maxLocals = 2 := hml0
  have hown : s.vm.findClass "java/util/Arrays" = some m.cls := findClass_of_methodNamed Bd.named
  have hnm := (name_of_methodNamed Bd.named Bd.method).1
  have X0 : Stand p l e ({ frames := 1, cells := 0, slots := 0, locals := 19 } : Room) s m #[(.ref r_SPACE), (.int x)] below meth c s₁ [] 0 0 := Stand.of_body Bd
  have e0 : s₁.heap = h0 := by rw [← hh, Bd.state]; rfl
  have N0 := Fr.nil n0
  have pre0 : ∀ t, Steps p.tables e below (s₁.setTop (mkF m 0 #[.val (.ref r_SPACE), .val (.int x)] [])) t → Steps p.tables e below (s₁.setTop (entryFrame m #[(.ref r_SPACE), (.int x)] 2)) t := fun t k => castTop (by first | (simp [entryFrame, mkF, argsToLocals, Value.category]; done) | rfl) k
  obtain ⟨_, _, ⟨T1, L1, k1, n1⟩, -, X1, ⟨Lc1, hQ1, l1, y1, z1⟩, st1⟩ := Jvm.LawKit.callS X0 hx (y := (⟨"java/util/Arrays", "binarySearch0", "([IIII)I"⟩ : MethodName)) hown (mvT hZ (hw _ (List.mem_of_getElem? (i := 19) rfl))) (mvT hZ (hw _ (List.mem_of_getElem? (i := 20) rfl))) (mvT hZ (hw _ (List.mem_of_getElem? (i := 17) rfl))) (mvT hZ (hw _ (List.mem_of_getElem? (i := 21) rfl))) (by decide) (backOf (W := 0) (rm4_r_SPACE_0_6_x_13_32 l Z a0 hw [] r_SPACE x k_SPACE h0 n0 Z0 hlo_x V_r_SPACE hhi_x) hZ (hw _ (List.mem_of_getElem? (i := 21) rfl)) (hw _ (List.mem_of_getElem? (i := 17) rfl)) (by decide) (by decide)) (g := (mkF m 5 #[.val (.ref r_SPACE), .val (.int x)] [(.int x), (.int 6), (.int 0), (.ref r_SPACE)])) rfl (by rw [hml]; rfl) (argsL := [(.ref r_SPACE), (.int 0), (.int 6), (.int x)]) (rest := []) (lenOf pd___IIII_I rfl) rfl (by show 2 * 0 + _ ≤ _; exact Nat.le_of_eq rfl) (hb hby d3_5) (fun _ _ => ⟨rfl, e0, (by decide : 0 + 0 ≤ _), (by decide : 0 + 0 ≤ _)⟩)
  dsimp only [Pt.U, Pt.locs, Pt.cells, Pt.slots] at X1 l1 y1 z1 st1 hQ1
  subst l1 y1 z1
  obtain ⟨rfl, N1q, e1⟩ := hQ1
  have N1 := Fr.app N0 N1q
  obtain ⟨fs, hr, hrun, hended, hW, hsame⟩ := X1.leave (v := some (.int (-5))) (fun h => by rw [Bd.returns] at h; cases h)
  refine ⟨_, _, pre0 _ ?_, hrun, hended, _, _, rfl, ?_, ⟨_, rfl⟩, hW, hsame.mono (by decide) (by decide)⟩
  · show Steps p.tables e below (s₁.setTop (mkF m 0 #[.val (.ref r_SPACE), .val (.int x)] [])) _
    refine XS.aloadN X0.here hx rfl (hb hby d3_0) rfl rfl ?_
    show Steps p.tables e below (s₁.setTop (mkF m 1 #[.val (.ref r_SPACE), .val (.int x)] [(.ref r_SPACE)])) _
    refine XS.iconst X0.here hx rfl (hb hby d3_1) ?_
    show Steps p.tables e below (s₁.setTop (mkF m 2 #[.val (.ref r_SPACE), .val (.int x)] [(.int 0), (.ref r_SPACE)])) _
    refine XS.aloadN X0.here hx rfl (hb hby d3_2) rfl rfl ?_
    show Steps p.tables e below (s₁.setTop (mkF m 3 #[.val (.ref r_SPACE), .val (.int x)] [(.ref r_SPACE), (.int 0), (.ref r_SPACE)])) _
    refine own_lenz X0 hx hZ e0 V_r_SPACE (g := (mkF m 3 #[.val (.ref r_SPACE), .val (.int x)] [(.ref r_SPACE), (.int 0), (.ref r_SPACE)])) rfl rfl (hb hby d3_3) _ ?_
    show Steps p.tables e below (s₁.setTop (mkF m 4 #[.val (.ref r_SPACE), .val (.int x)] [(.int 6), (.int 0), (.ref r_SPACE)])) _
    refine XS.iloadN X0.here hx rfl (hb hby d3_4) rfl ?_
    show Steps p.tables e below (s₁.setTop (mkF m 5 #[.val (.ref r_SPACE), .val (.int x)] [(.int x), (.int 6), (.int 0), (.ref r_SPACE)])) _
    refine st1 _ ?_
    show Steps p.tables e below (T1.setTop (mkF m 8 #[.val (.ref r_SPACE), .val (.int x)] [(.int (-5))])) _
    exact retI X1 hx Bd.returns (hb hby d3_8) hr
  · show Q3_r_SPACE_x_13_32 Z r_SPACE x k_SPACE h0 n0 _ T1.heap _
    rw [e1]
    exact ⟨rfl, N1, rfl⟩
def Q2_w_SPACE_x_13_32_all_SPACE (Z : State) (w_SPACE : Addr) (x : Int32) (r_SPACE : Addr) (k_SPACE : ClassId) (h0 : Heap) (n0 : Nat) (v : Option Value) (h : Heap) (L : List Loc) : Prop := v = some (.int (own_s x)) ∧ Fr n0 L ∧ h = h0
set_option maxRecDepth 65536 in
set_option maxHeartbeats 40000000 in
theorem rm2_w_SPACE_x_13_32_all_SPACE (l : Launch) (Z : State) (a0 : Array Value) (hw : ∀ d ∈ tables_1, d.before a0 Z = true) (ws : List Jvm.Cond) (w_SPACE : Addr) (x : Int32) (r_SPACE : Addr) (k_SPACE : ClassId) (h0 : Heap) (n0 : Nat) (Z0 : n0 ≤ h0.size) (F_ranges_w_SPACE : Fld Z h0 w_SPACE "com/example/termwell/termwell/core/text/CodePointSet" "ranges" "[I" (.ref r_SPACE)) (V_r_SPACE : Arv Z h0 r_SPACE k_SPACE .int (6 : Int32) [(.int 9), (.int 10), (.int 12), (.int 13), (.int 32), (.int 32)] (.int (0 : Int32))) (hlo_x : (13 : Int32) < x) (hhi_x : x < (32 : Int32)) (hret : (own_s x) = (0 : Int32)) :
    MetFree l (⟨"com/example/termwell/termwell/core/text/CodePointSet", "contains", "(I)Z"⟩ : MethodName) (head1 (Jvm.Cond.code (⟨"com/example/termwell/termwell/core/text/CodePointSet", "contains", "(I)Z"⟩ : MethodName) prog_19_method_4_code 3 (some .boolean) :: ws) ({ frames := 2, cells := 0, slots := 0, locals := 32 } : Room)) (fun a U => a = #[(.ref w_SPACE), (.int x)] ∧ Z.Warmed39 U.vm ∧ U.heap = h0) (fun _ _ _ _ _ => True) (fun _ U o U' => ∃ v L, o = .returned v ∧ Q2_w_SPACE_x_13_32_all_SPACE Z w_SPACE x r_SPACE k_SPACE h0 n0 v U'.heap L ∧ FrameEnd U o U' L ({ frames := 2, cells := 0, slots := 0, locals := 32 } : Room).cells ({ frames := 2, cells := 0, slots := 0, locals := 32 } : Room).slots) := by
  refine MetFree.of_bodySF (plainFor_of_name pn_2) hisR ?_
  intro p e s m args below meth c s₁ Bd hml0 hP hK
  obtain ⟨rfl, hZ, hh⟩ := hP
  have hx := Bd.exec
  have hby := Bd.bytes
  have hml : c.maxLocals = 3 := hml0
  have hown : s.vm.findClass "com/example/termwell/termwell/core/text/CodePointSet" = some m.cls := findClass_of_methodNamed Bd.named
  have hnm := (name_of_methodNamed Bd.named Bd.method).1
  have X0 : Stand p l e ({ frames := 2, cells := 0, slots := 0, locals := 32 } : Room) s m #[(.ref w_SPACE), (.int x)] below meth c s₁ [] 0 0 := Stand.of_body Bd
  have e0 : s₁.heap = h0 := by rw [← hh, Bd.state]; rfl
  have N0 := Fr.nil n0
  have pre0 : ∀ t, Steps p.tables e below (s₁.setTop (mkF m 0 #[.val (.ref w_SPACE), .val (.int x), .unset] [])) t → Steps p.tables e below (s₁.setTop (entryFrame m #[(.ref w_SPACE), (.int x)] 3)) t := fun t k => castTop (by first | (simp [entryFrame, mkF, argsToLocals, Value.category]; done) | rfl) k
  obtain ⟨T1, X1, e1, st1⟩ := getF X0 hx hZ hown (host := "") (Or.inl (hw _ (List.mem_of_getElem? (i := 13) rfl))) Via.refl e0 F_ranges_w_SPACE (g := (mkF m 1 #[.val (.ref w_SPACE), .val (.int x), .unset] [(.ref w_SPACE)])) rfl rfl (hb hby d2_1)
  obtain ⟨_, _, ⟨T2, L2, k2, n2⟩, -, X2, ⟨Lc2, hQ2, l2, y2, z2⟩, st2⟩ := Jvm.LawKit.callS X1 hx (y := (⟨"java/util/Arrays", "binarySearch", "([II)I"⟩ : MethodName)) hown (mvT hZ (hw _ (List.mem_of_getElem? (i := 15) rfl))) (mvT hZ (hw _ (List.mem_of_getElem? (i := 16) rfl))) (mvT hZ (hw _ (List.mem_of_getElem? (i := 17) rfl))) (mvT hZ (hw _ (List.mem_of_getElem? (i := 18) rfl))) (by decide) (backOf (W := 0) (rm3_r_SPACE_x_13_32 l Z a0 hw [] r_SPACE x k_SPACE h0 n0 Z0 V_r_SPACE hlo_x hhi_x) hZ (hw _ (List.mem_of_getElem? (i := 18) rfl)) (hw _ (List.mem_of_getElem? (i := 17) rfl)) (by decide) (by decide)) (g := (mkF m 5 #[.val (.ref w_SPACE), .val (.int x), .unset] [(.int x), (.ref r_SPACE)])) rfl (by rw [hml]; rfl) (argsL := [(.ref r_SPACE), (.int x)]) (rest := []) (lenOf pd___II_I rfl) rfl (by show 2 * 0 + _ ≤ _; exact Nat.le_of_eq rfl) (hb hby d2_5) (fun _ _ => ⟨rfl, e1, (by decide : 0 + 0 ≤ _), (by decide : 0 + 0 ≤ _)⟩)
  dsimp only [Pt.U, Pt.locs, Pt.cells, Pt.slots] at X2 l2 y2 z2 st2 hQ2
  subst l2 y2 z2
  obtain ⟨rfl, N2q, e2⟩ := hQ2
  have N2 := Fr.app N0 N2q
  obtain ⟨fs, hr, hrun, hended, hW, hsame⟩ := X2.leave (v := some (.int 0)) (fun h => by rw [Bd.returns] at h; cases h)
  refine ⟨_, _, pre0 _ ?_, hrun, hended, _, _, rfl, ?_, ⟨_, rfl⟩, hW, hsame.mono (by decide) (by decide)⟩
  · show Steps p.tables e below (s₁.setTop (mkF m 0 #[.val (.ref w_SPACE), .val (.int x), .unset] [])) _
    refine XS.aloadN X0.here hx rfl (hb hby d2_0) rfl rfl ?_
    show Steps p.tables e below (s₁.setTop (mkF m 1 #[.val (.ref w_SPACE), .val (.int x), .unset] [(.ref w_SPACE)])) _
    refine st1 _ ?_
    show Steps p.tables e below (T1.setTop (mkF m 4 #[.val (.ref w_SPACE), .val (.int x), .unset] [(.ref r_SPACE)])) _
    refine XS.iloadN X1.here hx rfl (hb hby d2_4) rfl ?_
    show Steps p.tables e below (T1.setTop (mkF m 5 #[.val (.ref w_SPACE), .val (.int x), .unset] [(.int x), (.ref r_SPACE)])) _
    refine st2 _ ?_
    show Steps p.tables e below (T2.setTop (mkF m 8 #[.val (.ref w_SPACE), .val (.int x), .unset] [(.int (-5))])) _
    refine XS.istoreN X2.here hx rfl (hb hby d2_8) rfl (l' := #[.val (.ref w_SPACE), .val (.int x), .val (.int (-5))]) rfl ?_
    show Steps p.tables e below (T2.setTop (mkF m 9 #[.val (.ref w_SPACE), .val (.int x), .val (.int (-5))] [])) _
    refine XS.iloadN X2.here hx rfl (hb hby d2_9) rfl ?_
    show Steps p.tables e below (T2.setTop (mkF m 10 #[.val (.ref w_SPACE), .val (.int x), .val (.int (-5))] [(.int (-5))])) _
    refine XS.ifNo X2.here hx rfl (hb hby d2_10) rfl ((if0 _ _).trans (tlt (by decide : (-5 : Int32) < (0 : Int32))).2.1) ?_
    show Steps p.tables e below (T2.setTop (mkF m 13 #[.val (.ref w_SPACE), .val (.int x), .val (.int (-5))] [])) _
    refine XS.iloadN X2.here hx rfl (hb hby d2_13) rfl ?_
    show Steps p.tables e below (T2.setTop (mkF m 14 #[.val (.ref w_SPACE), .val (.int x), .val (.int (-5))] [(.int (-5))])) _
    refine XS.ineg X2.here hx rfl (hb hby d2_14) rfl ?_
    show Steps p.tables e below (T2.setTop (mkF m 15 #[.val (.ref w_SPACE), .val (.int x), .val (.int (-5))] [(.int (-(-5 : Int32)))])) _
    rw [(by decide : (-(-5 : Int32)) = (5 : Int32))]
    show Steps p.tables e below (T2.setTop (mkF m 15 #[.val (.ref w_SPACE), .val (.int x), .val (.int (-5))] [(.int 5)])) _
    refine XS.iconst X2.here hx rfl (hb hby d2_15) ?_
    show Steps p.tables e below (T2.setTop (mkF m 16 #[.val (.ref w_SPACE), .val (.int x), .val (.int (-5))] [(.int 1), (.int 5)])) _
    refine XS.isub X2.here hx rfl (hb hby d2_16) rfl ?_
    show Steps p.tables e below (T2.setTop (mkF m 17 #[.val (.ref w_SPACE), .val (.int x), .val (.int (-5))] [(.int ((5 : Int32) - (1 : Int32)))])) _
    rw [(by decide : ((5 : Int32) - (1 : Int32)) = (4 : Int32))]
    show Steps p.tables e below (T2.setTop (mkF m 17 #[.val (.ref w_SPACE), .val (.int x), .val (.int (-5))] [(.int 4)])) _
    refine XS.iconst X2.here hx rfl (hb hby d2_17) ?_
    show Steps p.tables e below (T2.setTop (mkF m 18 #[.val (.ref w_SPACE), .val (.int x), .val (.int (-5))] [(.int 2), (.int 4)])) _
    refine iremM X2 hx rfl (hb hby d2_18) rfl (by decide) ?_
    show Steps p.tables e below (T2.setTop (mkF m 19 #[.val (.ref w_SPACE), .val (.int x), .val (.int (-5))] [(.int ((4 : Int32) % (2 : Int32)))])) _
    rw [(by decide : ((4 : Int32) % (2 : Int32)) = (0 : Int32))]
    show Steps p.tables e below (T2.setTop (mkF m 19 #[.val (.ref w_SPACE), .val (.int x), .val (.int (-5))] [(.int 0)])) _
    refine XS.iconst X2.here hx rfl (hb hby d2_19) ?_
    show Steps p.tables e below (T2.setTop (mkF m 20 #[.val (.ref w_SPACE), .val (.int x), .val (.int (-5))] [(.int 1), (.int 0)])) _
    refine XS.icmpYes X2.here hx rfl (pc0 := 20) (pc' := 27) rfl (hb hby d2_20) rfl (feq (by decide : ¬ ((0 : Int32) = (1 : Int32)))).2 (by decide) (by decide) ?_
    show Steps p.tables e below (T2.setTop (mkF m 27 #[.val (.ref w_SPACE), .val (.int x), .val (.int (-5))] [])) _
    refine XS.iconst X2.here hx rfl (hb hby d2_27) ?_
    show Steps p.tables e below (T2.setTop (mkF m 28 #[.val (.ref w_SPACE), .val (.int x), .val (.int (-5))] [(.int 0)])) _
    exact retN X2 hx (t := .boolean) Bd.returns (by simp) (hb hby d2_28) hr
  · show Q2_w_SPACE_x_13_32_all_SPACE Z w_SPACE x r_SPACE k_SPACE h0 n0 _ T2.heap _
    rw [e2]
    exact ⟨(by rw [hret]), N2, rfl⟩
def Q4_r_SPACE_0_6_32 (Z : State) (r_SPACE : Addr) (k_SPACE : ClassId) (h0 : Heap) (n0 : Nat) (v : Option Value) (h : Heap) (L : List Loc) : Prop := v = some (.int 4) ∧ Fr n0 L ∧ h = h0
set_option maxRecDepth 65536 in
set_option maxHeartbeats 40000000 in
theorem rm4_r_SPACE_0_6_32 (l : Launch) (Z : State) (a0 : Array Value) (hw : ∀ d ∈ tables_1, d.before a0 Z = true) (ws : List Jvm.Cond) (r_SPACE : Addr) (k_SPACE : ClassId) (h0 : Heap) (n0 : Nat) (Z0 : n0 ≤ h0.size) (V_r_SPACE : Arv Z h0 r_SPACE k_SPACE .int (6 : Int32) [(.int 9), (.int 10), (.int 12), (.int 13), (.int 32), (.int 32)] (.int (0 : Int32))) :
    MetFree l (⟨"java/util/Arrays", "binarySearch0", "([IIII)I"⟩ : MethodName) (head1 (Jvm.Cond.code (⟨"java/util/Arrays", "binarySearch0", "([IIII)I"⟩ : MethodName) jdk_65_method_59_code 8 (some .int) :: ws) ({ frames := 0, cells := 0, slots := 0, locals := 0 } : Room)) (fun a U => a = #[(.ref r_SPACE), (.int 0), (.int 6), (.int 32)] ∧ Z.Warmed39 U.vm ∧ U.heap = h0) (fun _ _ _ _ _ => True) (fun _ U o U' => ∃ v L, o = .returned v ∧ Q4_r_SPACE_0_6_32 Z r_SPACE k_SPACE h0 n0 v U'.heap L ∧ FrameEnd U o U' L ({ frames := 0, cells := 0, slots := 0, locals := 0 } : Room).cells ({ frames := 0, cells := 0, slots := 0, locals := 0 } : Room).slots) := by
  refine MetFree.of_bodySF (plainFor_of_name pn_4) hisR ?_
  intro p e s m args below meth c s₁ Bd hml0 hP hK
  obtain ⟨rfl, hZ, hh⟩ := hP
  have hx := Bd.exec
  have hby := Bd.bytes
  have hml : c.maxLocals = 8 := hml0
  have hown : s.vm.findClass "java/util/Arrays" = some m.cls := findClass_of_methodNamed Bd.named
  have hnm := (name_of_methodNamed Bd.named Bd.method).1
  have X0 : Stand p l e ({ frames := 0, cells := 0, slots := 0, locals := 0 } : Room) s m #[(.ref r_SPACE), (.int 0), (.int 6), (.int 32)] below meth c s₁ [] 0 0 := Stand.of_body Bd
  have e0 : s₁.heap = h0 := by rw [← hh, Bd.state]; rfl
  have N0 := Fr.nil n0
  have pre0 : ∀ t, Steps p.tables e below (s₁.setTop (mkF m 0 #[.val (.ref r_SPACE), .val (.int 0), .val (.int 6), .val (.int 32), .unset, .unset, .unset, .unset] [])) t → Steps p.tables e below (s₁.setTop (entryFrame m #[(.ref r_SPACE), (.int 0), (.int 6), (.int 32)] 8)) t := fun t k => castTop (by first | (simp [entryFrame, mkF, argsToLocals, Value.category]; done) | rfl) k
  obtain ⟨fs, hr, hrun, hended, hW, hsame⟩ := X0.leave (v := some (.int 4)) (fun h => by rw [Bd.returns] at h; cases h)
  refine ⟨_, _, pre0 _ ?_, hrun, hended, _, _, rfl, ?_, ⟨_, rfl⟩, hW, hsame.mono (by decide) (by decide)⟩
  · show Steps p.tables e below (s₁.setTop (mkF m 0 #[.val (.ref r_SPACE), .val (.int 0), .val (.int 6), .val (.int 32), .unset, .unset, .unset, .unset] [])) _
    refine XS.iloadN X0.here hx rfl (hb hby d4_0) rfl ?_
    show Steps p.tables e below (s₁.setTop (mkF m 1 #[.val (.ref r_SPACE), .val (.int 0), .val (.int 6), .val (.int 32), .unset, .unset, .unset, .unset] [(.int 0)])) _
    refine XS.istore X0.here hx rfl (hb hby d4_1) rfl (l' := #[.val (.ref r_SPACE), .val (.int 0), .val (.int 6), .val (.int 32), .val (.int 0), .unset, .unset, .unset]) rfl ?_
    show Steps p.tables e below (s₁.setTop (mkF m 3 #[.val (.ref r_SPACE), .val (.int 0), .val (.int 6), .val (.int 32), .val (.int 0), .unset, .unset, .unset] [])) _
    refine XS.iloadN X0.here hx rfl (hb hby d4_3) rfl ?_
    show Steps p.tables e below (s₁.setTop (mkF m 4 #[.val (.ref r_SPACE), .val (.int 0), .val (.int 6), .val (.int 32), .val (.int 0), .unset, .unset, .unset] [(.int 6)])) _
    refine XS.iconst X0.here hx rfl (hb hby d4_4) ?_
    show Steps p.tables e below (s₁.setTop (mkF m 5 #[.val (.ref r_SPACE), .val (.int 0), .val (.int 6), .val (.int 32), .val (.int 0), .unset, .unset, .unset] [(.int 1), (.int 6)])) _
    refine XS.isub X0.here hx rfl (hb hby d4_5) rfl ?_
    show Steps p.tables e below (s₁.setTop (mkF m 6 #[.val (.ref r_SPACE), .val (.int 0), .val (.int 6), .val (.int 32), .val (.int 0), .unset, .unset, .unset] [(.int ((6 : Int32) - (1 : Int32)))])) _
    rw [(by decide : ((6 : Int32) - (1 : Int32)) = (5 : Int32))]
    show Steps p.tables e below (s₁.setTop (mkF m 6 #[.val (.ref r_SPACE), .val (.int 0), .val (.int 6), .val (.int 32), .val (.int 0), .unset, .unset, .unset] [(.int 5)])) _
    refine XS.istore X0.here hx rfl (hb hby d4_6) rfl (l' := #[.val (.ref r_SPACE), .val (.int 0), .val (.int 6), .val (.int 32), .val (.int 0), .val (.int 5), .unset, .unset]) rfl ?_
    show Steps p.tables e below (s₁.setTop (mkF m 8 #[.val (.ref r_SPACE), .val (.int 0), .val (.int 6), .val (.int 32), .val (.int 0), .val (.int 5), .unset, .unset] [])) _
    refine tnLu r_SPACE (0 : Int32) (6 : Int32) (32 : Int32) (0 : Int32) (5 : Int32) (2 : Int32) k_SPACE (6 : Int32) [(.int 9), (.int 10), (.int 12), (.int 13), (.int 32), (.int 32)] (.int (0 : Int32)) (12 : Int32) (3 : Int32) X0 hx hZ hby e0 (by decide) (by decide) V_r_SPACE ⟨by decide, by decide⟩ rfl (by decide) (by decide) _ ?_
    show Steps p.tables e below (s₁.setTop (mkF m 8 #[.val (.ref r_SPACE), .val (.int 0), .val (.int 6), .val (.int 32), .val (.int 3), .val (.int 5), .val (.int 2), .val (.int 12)] [])) _
    refine XS.iload X0.here hx rfl (hb hby d4_8) rfl ?_
    show Steps p.tables e below (s₁.setTop (mkF m 10 #[.val (.ref r_SPACE), .val (.int 0), .val (.int 6), .val (.int 32), .val (.int 3), .val (.int 5), .val (.int 2), .val (.int 12)] [(.int 3)])) _
    refine XS.iload X0.here hx rfl (hb hby d4_10) rfl ?_
    show Steps p.tables e below (s₁.setTop (mkF m 12 #[.val (.ref r_SPACE), .val (.int 0), .val (.int 6), .val (.int 32), .val (.int 3), .val (.int 5), .val (.int 2), .val (.int 12)] [(.int 5), (.int 3)])) _
    refine XS.icmpNo X0.here hx rfl (hb hby d4_12) rfl (flt (by decide : ¬ ((5 : Int32) < (3 : Int32)))).2.2.1 ?_
    show Steps p.tables e below (s₁.setTop (mkF m 15 #[.val (.ref r_SPACE), .val (.int 0), .val (.int 6), .val (.int 32), .val (.int 3), .val (.int 5), .val (.int 2), .val (.int 12)] [])) _
    refine XS.iload X0.here hx rfl (hb hby d4_15) rfl ?_
    show Steps p.tables e below (s₁.setTop (mkF m 17 #[.val (.ref r_SPACE), .val (.int 0), .val (.int 6), .val (.int 32), .val (.int 3), .val (.int 5), .val (.int 2), .val (.int 12)] [(.int 3)])) _
    refine XS.iload X0.here hx rfl (hb hby d4_17) rfl ?_
    show Steps p.tables e below (s₁.setTop (mkF m 19 #[.val (.ref r_SPACE), .val (.int 0), .val (.int 6), .val (.int 32), .val (.int 3), .val (.int 5), .val (.int 2), .val (.int 12)] [(.int 5), (.int 3)])) _
    refine XS.iadd X0.here hx rfl (hb hby d4_19) rfl ?_
    show Steps p.tables e below (s₁.setTop (mkF m 20 #[.val (.ref r_SPACE), .val (.int 0), .val (.int 6), .val (.int 32), .val (.int 3), .val (.int 5), .val (.int 2), .val (.int 12)] [(.int ((3 : Int32) + (5 : Int32)))])) _
    rw [(by decide : ((3 : Int32) + (5 : Int32)) = (8 : Int32))]
    show Steps p.tables e below (s₁.setTop (mkF m 20 #[.val (.ref r_SPACE), .val (.int 0), .val (.int 6), .val (.int 32), .val (.int 3), .val (.int 5), .val (.int 2), .val (.int 12)] [(.int 8)])) _
    refine XS.iconst X0.here hx rfl (hb hby d4_20) ?_
    show Steps p.tables e below (s₁.setTop (mkF m 21 #[.val (.ref r_SPACE), .val (.int 0), .val (.int 6), .val (.int 32), .val (.int 3), .val (.int 5), .val (.int 2), .val (.int 12)] [(.int 1), (.int 8)])) _
    refine XS.iushr X0.here hx rfl (hb hby d4_21) rfl ?_
    show Steps p.tables e below (s₁.setTop (mkF m 22 #[.val (.ref r_SPACE), .val (.int 0), .val (.int 6), .val (.int 32), .val (.int 3), .val (.int 5), .val (.int 2), .val (.int 12)] [(.int (((8 : Int32).toUInt32 >>> ((1 : Int32) &&& 31).toUInt32).toInt32))])) _
    rw [(by decide : (((8 : Int32).toUInt32 >>> ((1 : Int32) &&& 31).toUInt32).toInt32) = (4 : Int32))]
    show Steps p.tables e below (s₁.setTop (mkF m 22 #[.val (.ref r_SPACE), .val (.int 0), .val (.int 6), .val (.int 32), .val (.int 3), .val (.int 5), .val (.int 2), .val (.int 12)] [(.int 4)])) _
    refine XS.istore X0.here hx rfl (hb hby d4_22) rfl (l' := #[.val (.ref r_SPACE), .val (.int 0), .val (.int 6), .val (.int 32), .val (.int 3), .val (.int 5), .val (.int 4), .val (.int 12)]) rfl ?_
    show Steps p.tables e below (s₁.setTop (mkF m 24 #[.val (.ref r_SPACE), .val (.int 0), .val (.int 6), .val (.int 32), .val (.int 3), .val (.int 5), .val (.int 4), .val (.int 12)] [])) _
    refine XS.aloadN X0.here hx rfl (hb hby d4_24) rfl rfl ?_
    show Steps p.tables e below (s₁.setTop (mkF m 25 #[.val (.ref r_SPACE), .val (.int 0), .val (.int 6), .val (.int 32), .val (.int 3), .val (.int 5), .val (.int 4), .val (.int 12)] [(.ref r_SPACE)])) _
    refine XS.iload X0.here hx rfl (hb hby d4_25) rfl ?_
    show Steps p.tables e below (s₁.setTop (mkF m 27 #[.val (.ref r_SPACE), .val (.int 0), .val (.int 6), .val (.int 32), .val (.int 3), .val (.int 5), .val (.int 4), .val (.int 12)] [(.int 4), (.ref r_SPACE)])) _
    refine own_ldI X0 hx hZ e0 V_r_SPACE (j := (4 : Int32)) ⟨by decide, by decide⟩ rfl (g := (mkF m 27 #[.val (.ref r_SPACE), .val (.int 0), .val (.int 6), .val (.int 32), .val (.int 3), .val (.int 5), .val (.int 4), .val (.int 12)] [(.int 4), (.ref r_SPACE)])) rfl rfl (hb hby d4_27) _ ?_
    show Steps p.tables e below (s₁.setTop (mkF m 28 #[.val (.ref r_SPACE), .val (.int 0), .val (.int 6), .val (.int 32), .val (.int 3), .val (.int 5), .val (.int 4), .val (.int 12)] [(.int 32)])) _
    refine XS.istore X0.here hx rfl (hb hby d4_28) rfl (l' := #[.val (.ref r_SPACE), .val (.int 0), .val (.int 6), .val (.int 32), .val (.int 3), .val (.int 5), .val (.int 4), .val (.int 32)]) rfl ?_
    show Steps p.tables e below (s₁.setTop (mkF m 30 #[.val (.ref r_SPACE), .val (.int 0), .val (.int 6), .val (.int 32), .val (.int 3), .val (.int 5), .val (.int 4), .val (.int 32)] [])) _
    refine XS.iload X0.here hx rfl (hb hby d4_30) rfl ?_
    show Steps p.tables e below (s₁.setTop (mkF m 32 #[.val (.ref r_SPACE), .val (.int 0), .val (.int 6), .val (.int 32), .val (.int 3), .val (.int 5), .val (.int 4), .val (.int 32)] [(.int 32)])) _
    refine XS.iloadN X0.here hx rfl (hb hby d4_32) rfl ?_
    show Steps p.tables e below (s₁.setTop (mkF m 33 #[.val (.ref r_SPACE), .val (.int 0), .val (.int 6), .val (.int 32), .val (.int 3), .val (.int 5), .val (.int 4), .val (.int 32)] [(.int 32), (.int 32)])) _
    refine XS.icmpYes X0.here hx rfl (pc0 := 33) (pc' := 45) rfl (hb hby d4_33) rfl (flt (by decide : ¬ ((32 : Int32) < (32 : Int32)))).2.1 (by decide) (by decide) ?_
    show Steps p.tables e below (s₁.setTop (mkF m 45 #[.val (.ref r_SPACE), .val (.int 0), .val (.int 6), .val (.int 32), .val (.int 3), .val (.int 5), .val (.int 4), .val (.int 32)] [])) _
    refine XS.iload X0.here hx rfl (hb hby d4_45) rfl ?_
    show Steps p.tables e below (s₁.setTop (mkF m 47 #[.val (.ref r_SPACE), .val (.int 0), .val (.int 6), .val (.int 32), .val (.int 3), .val (.int 5), .val (.int 4), .val (.int 32)] [(.int 32)])) _
    refine XS.iloadN X0.here hx rfl (hb hby d4_47) rfl ?_
    show Steps p.tables e below (s₁.setTop (mkF m 48 #[.val (.ref r_SPACE), .val (.int 0), .val (.int 6), .val (.int 32), .val (.int 3), .val (.int 5), .val (.int 4), .val (.int 32)] [(.int 32), (.int 32)])) _
    refine XS.icmpYes X0.here hx rfl (pc0 := 48) (pc' := 60) rfl (hb hby d4_48) rfl (flt (by decide : ¬ ((32 : Int32) < (32 : Int32)))).2.2.2 (by decide) (by decide) ?_
    show Steps p.tables e below (s₁.setTop (mkF m 60 #[.val (.ref r_SPACE), .val (.int 0), .val (.int 6), .val (.int 32), .val (.int 3), .val (.int 5), .val (.int 4), .val (.int 32)] [])) _
    refine XS.iload X0.here hx rfl (hb hby d4_60) rfl ?_
    show Steps p.tables e below (s₁.setTop (mkF m 62 #[.val (.ref r_SPACE), .val (.int 0), .val (.int 6), .val (.int 32), .val (.int 3), .val (.int 5), .val (.int 4), .val (.int 32)] [(.int 4)])) _
    exact retI X0 hx Bd.returns (hb hby d4_62) hr
  · show Q4_r_SPACE_0_6_32 Z r_SPACE k_SPACE h0 n0 _ s₁.heap _
    rw [e0]
    exact ⟨rfl, N0, rfl⟩
def Q3_r_SPACE_32 (Z : State) (r_SPACE : Addr) (k_SPACE : ClassId) (h0 : Heap) (n0 : Nat) (v : Option Value) (h : Heap) (L : List Loc) : Prop := v = some (.int 4) ∧ Fr n0 L ∧ h = h0
set_option maxRecDepth 65536 in
set_option maxHeartbeats 40000000 in
theorem rm3_r_SPACE_32 (l : Launch) (Z : State) (a0 : Array Value) (hw : ∀ d ∈ tables_1, d.before a0 Z = true) (ws : List Jvm.Cond) (r_SPACE : Addr) (k_SPACE : ClassId) (h0 : Heap) (n0 : Nat) (Z0 : n0 ≤ h0.size) (V_r_SPACE : Arv Z h0 r_SPACE k_SPACE .int (6 : Int32) [(.int 9), (.int 10), (.int 12), (.int 13), (.int 32), (.int 32)] (.int (0 : Int32))) :
    MetFree l (⟨"java/util/Arrays", "binarySearch", "([II)I"⟩ : MethodName) (head1 (Jvm.Cond.code (⟨"java/util/Arrays", "binarySearch", "([II)I"⟩ : MethodName) jdk_65_method_57_code 2 (some .int) :: ws) ({ frames := 1, cells := 0, slots := 0, locals := 19 } : Room)) (fun a U => a = #[(.ref r_SPACE), (.int 32)] ∧ Z.Warmed39 U.vm ∧ U.heap = h0) (fun _ _ _ _ _ => True) (fun _ U o U' => ∃ v L, o = .returned v ∧ Q3_r_SPACE_32 Z r_SPACE k_SPACE h0 n0 v U'.heap L ∧ FrameEnd U o U' L ({ frames := 1, cells := 0, slots := 0, locals := 19 } : Room).cells ({ frames := 1, cells := 0, slots := 0, locals := 19 } : Room).slots) := by
  refine MetFree.of_bodySF (plainFor_of_name pn_3) hisR ?_
  intro p e s m args below meth c s₁ Bd hml0 hP hK
  obtain ⟨rfl, hZ, hh⟩ := hP
  have hx := Bd.exec
  have hby := Bd.bytes
  have hml : c.maxLocals = 2 := hml0
  have hown : s.vm.findClass "java/util/Arrays" = some m.cls := findClass_of_methodNamed Bd.named
  have hnm := (name_of_methodNamed Bd.named Bd.method).1
  have X0 : Stand p l e ({ frames := 1, cells := 0, slots := 0, locals := 19 } : Room) s m #[(.ref r_SPACE), (.int 32)] below meth c s₁ [] 0 0 := Stand.of_body Bd
  have e0 : s₁.heap = h0 := by rw [← hh, Bd.state]; rfl
  have N0 := Fr.nil n0
  have pre0 : ∀ t, Steps p.tables e below (s₁.setTop (mkF m 0 #[.val (.ref r_SPACE), .val (.int 32)] [])) t → Steps p.tables e below (s₁.setTop (entryFrame m #[(.ref r_SPACE), (.int 32)] 2)) t := fun t k => castTop (by first | (simp [entryFrame, mkF, argsToLocals, Value.category]; done) | rfl) k
  obtain ⟨_, _, ⟨T1, L1, k1, n1⟩, -, X1, ⟨Lc1, hQ1, l1, y1, z1⟩, st1⟩ := Jvm.LawKit.callS X0 hx (y := (⟨"java/util/Arrays", "binarySearch0", "([IIII)I"⟩ : MethodName)) hown (mvT hZ (hw _ (List.mem_of_getElem? (i := 19) rfl))) (mvT hZ (hw _ (List.mem_of_getElem? (i := 20) rfl))) (mvT hZ (hw _ (List.mem_of_getElem? (i := 17) rfl))) (mvT hZ (hw _ (List.mem_of_getElem? (i := 21) rfl))) (by decide) (backOf (W := 0) (rm4_r_SPACE_0_6_32 l Z a0 hw [] r_SPACE k_SPACE h0 n0 Z0 V_r_SPACE) hZ (hw _ (List.mem_of_getElem? (i := 21) rfl)) (hw _ (List.mem_of_getElem? (i := 17) rfl)) (by decide) (by decide)) (g := (mkF m 5 #[.val (.ref r_SPACE), .val (.int 32)] [(.int 32), (.int 6), (.int 0), (.ref r_SPACE)])) rfl (by rw [hml]; rfl) (argsL := [(.ref r_SPACE), (.int 0), (.int 6), (.int 32)]) (rest := []) (lenOf pd___IIII_I rfl) rfl (by show 2 * 0 + _ ≤ _; exact Nat.le_of_eq rfl) (hb hby d3_5) (fun _ _ => ⟨rfl, e0, (by decide : 0 + 0 ≤ _), (by decide : 0 + 0 ≤ _)⟩)
  dsimp only [Pt.U, Pt.locs, Pt.cells, Pt.slots] at X1 l1 y1 z1 st1 hQ1
  subst l1 y1 z1
  obtain ⟨rfl, N1q, e1⟩ := hQ1
  have N1 := Fr.app N0 N1q
  obtain ⟨fs, hr, hrun, hended, hW, hsame⟩ := X1.leave (v := some (.int 4)) (fun h => by rw [Bd.returns] at h; cases h)
  refine ⟨_, _, pre0 _ ?_, hrun, hended, _, _, rfl, ?_, ⟨_, rfl⟩, hW, hsame.mono (by decide) (by decide)⟩
  · show Steps p.tables e below (s₁.setTop (mkF m 0 #[.val (.ref r_SPACE), .val (.int 32)] [])) _
    refine XS.aloadN X0.here hx rfl (hb hby d3_0) rfl rfl ?_
    show Steps p.tables e below (s₁.setTop (mkF m 1 #[.val (.ref r_SPACE), .val (.int 32)] [(.ref r_SPACE)])) _
    refine XS.iconst X0.here hx rfl (hb hby d3_1) ?_
    show Steps p.tables e below (s₁.setTop (mkF m 2 #[.val (.ref r_SPACE), .val (.int 32)] [(.int 0), (.ref r_SPACE)])) _
    refine XS.aloadN X0.here hx rfl (hb hby d3_2) rfl rfl ?_
    show Steps p.tables e below (s₁.setTop (mkF m 3 #[.val (.ref r_SPACE), .val (.int 32)] [(.ref r_SPACE), (.int 0), (.ref r_SPACE)])) _
    refine own_lenz X0 hx hZ e0 V_r_SPACE (g := (mkF m 3 #[.val (.ref r_SPACE), .val (.int 32)] [(.ref r_SPACE), (.int 0), (.ref r_SPACE)])) rfl rfl (hb hby d3_3) _ ?_
    show Steps p.tables e below (s₁.setTop (mkF m 4 #[.val (.ref r_SPACE), .val (.int 32)] [(.int 6), (.int 0), (.ref r_SPACE)])) _
    refine XS.iloadN X0.here hx rfl (hb hby d3_4) rfl ?_
    show Steps p.tables e below (s₁.setTop (mkF m 5 #[.val (.ref r_SPACE), .val (.int 32)] [(.int 32), (.int 6), (.int 0), (.ref r_SPACE)])) _
    refine st1 _ ?_
    show Steps p.tables e below (T1.setTop (mkF m 8 #[.val (.ref r_SPACE), .val (.int 32)] [(.int 4)])) _
    exact retI X1 hx Bd.returns (hb hby d3_8) hr
  · show Q3_r_SPACE_32 Z r_SPACE k_SPACE h0 n0 _ T1.heap _
    rw [e1]
    exact ⟨rfl, N1, rfl⟩
def Q2_w_SPACE_32_all_SPACE (Z : State) (w_SPACE : Addr) (r_SPACE : Addr) (k_SPACE : ClassId) (h0 : Heap) (n0 : Nat) (v : Option Value) (h : Heap) (L : List Loc) : Prop := v = some (.int (own_s (32 : Int32))) ∧ Fr n0 L ∧ h = h0
set_option maxRecDepth 65536 in
set_option maxHeartbeats 40000000 in
theorem rm2_w_SPACE_32_all_SPACE (l : Launch) (Z : State) (a0 : Array Value) (hw : ∀ d ∈ tables_1, d.before a0 Z = true) (ws : List Jvm.Cond) (w_SPACE : Addr) (r_SPACE : Addr) (k_SPACE : ClassId) (h0 : Heap) (n0 : Nat) (Z0 : n0 ≤ h0.size) (F_ranges_w_SPACE : Fld Z h0 w_SPACE "com/example/termwell/termwell/core/text/CodePointSet" "ranges" "[I" (.ref r_SPACE)) (V_r_SPACE : Arv Z h0 r_SPACE k_SPACE .int (6 : Int32) [(.int 9), (.int 10), (.int 12), (.int 13), (.int 32), (.int 32)] (.int (0 : Int32))) (hret : (own_s (32 : Int32)) = (1 : Int32)) :
    MetFree l (⟨"com/example/termwell/termwell/core/text/CodePointSet", "contains", "(I)Z"⟩ : MethodName) (head1 (Jvm.Cond.code (⟨"com/example/termwell/termwell/core/text/CodePointSet", "contains", "(I)Z"⟩ : MethodName) prog_19_method_4_code 3 (some .boolean) :: ws) ({ frames := 2, cells := 0, slots := 0, locals := 32 } : Room)) (fun a U => a = #[(.ref w_SPACE), (.int 32)] ∧ Z.Warmed39 U.vm ∧ U.heap = h0) (fun _ _ _ _ _ => True) (fun _ U o U' => ∃ v L, o = .returned v ∧ Q2_w_SPACE_32_all_SPACE Z w_SPACE r_SPACE k_SPACE h0 n0 v U'.heap L ∧ FrameEnd U o U' L ({ frames := 2, cells := 0, slots := 0, locals := 32 } : Room).cells ({ frames := 2, cells := 0, slots := 0, locals := 32 } : Room).slots) := by
  refine MetFree.of_bodySF (plainFor_of_name pn_2) hisR ?_
  intro p e s m args below meth c s₁ Bd hml0 hP hK
  obtain ⟨rfl, hZ, hh⟩ := hP
  have hx := Bd.exec
  have hby := Bd.bytes
  have hml : c.maxLocals = 3 := hml0
  have hown : s.vm.findClass "com/example/termwell/termwell/core/text/CodePointSet" = some m.cls := findClass_of_methodNamed Bd.named
  have hnm := (name_of_methodNamed Bd.named Bd.method).1
  have X0 : Stand p l e ({ frames := 2, cells := 0, slots := 0, locals := 32 } : Room) s m #[(.ref w_SPACE), (.int 32)] below meth c s₁ [] 0 0 := Stand.of_body Bd
  have e0 : s₁.heap = h0 := by rw [← hh, Bd.state]; rfl
  have N0 := Fr.nil n0
  have pre0 : ∀ t, Steps p.tables e below (s₁.setTop (mkF m 0 #[.val (.ref w_SPACE), .val (.int 32), .unset] [])) t → Steps p.tables e below (s₁.setTop (entryFrame m #[(.ref w_SPACE), (.int 32)] 3)) t := fun t k => castTop (by first | (simp [entryFrame, mkF, argsToLocals, Value.category]; done) | rfl) k
  obtain ⟨T1, X1, e1, st1⟩ := getF X0 hx hZ hown (host := "") (Or.inl (hw _ (List.mem_of_getElem? (i := 13) rfl))) Via.refl e0 F_ranges_w_SPACE (g := (mkF m 1 #[.val (.ref w_SPACE), .val (.int 32), .unset] [(.ref w_SPACE)])) rfl rfl (hb hby d2_1)
  obtain ⟨_, _, ⟨T2, L2, k2, n2⟩, -, X2, ⟨Lc2, hQ2, l2, y2, z2⟩, st2⟩ := Jvm.LawKit.callS X1 hx (y := (⟨"java/util/Arrays", "binarySearch", "([II)I"⟩ : MethodName)) hown (mvT hZ (hw _ (List.mem_of_getElem? (i := 15) rfl))) (mvT hZ (hw _ (List.mem_of_getElem? (i := 16) rfl))) (mvT hZ (hw _ (List.mem_of_getElem? (i := 17) rfl))) (mvT hZ (hw _ (List.mem_of_getElem? (i := 18) rfl))) (by decide) (backOf (W := 0) (rm3_r_SPACE_32 l Z a0 hw [] r_SPACE k_SPACE h0 n0 Z0 V_r_SPACE) hZ (hw _ (List.mem_of_getElem? (i := 18) rfl)) (hw _ (List.mem_of_getElem? (i := 17) rfl)) (by decide) (by decide)) (g := (mkF m 5 #[.val (.ref w_SPACE), .val (.int 32), .unset] [(.int 32), (.ref r_SPACE)])) rfl (by rw [hml]; rfl) (argsL := [(.ref r_SPACE), (.int 32)]) (rest := []) (lenOf pd___II_I rfl) rfl (by show 2 * 0 + _ ≤ _; exact Nat.le_of_eq rfl) (hb hby d2_5) (fun _ _ => ⟨rfl, e1, (by decide : 0 + 0 ≤ _), (by decide : 0 + 0 ≤ _)⟩)
  dsimp only [Pt.U, Pt.locs, Pt.cells, Pt.slots] at X2 l2 y2 z2 st2 hQ2
  subst l2 y2 z2
  obtain ⟨rfl, N2q, e2⟩ := hQ2
  have N2 := Fr.app N0 N2q
  obtain ⟨fs, hr, hrun, hended, hW, hsame⟩ := X2.leave (v := some (.int 1)) (fun h => by rw [Bd.returns] at h; cases h)
  refine ⟨_, _, pre0 _ ?_, hrun, hended, _, _, rfl, ?_, ⟨_, rfl⟩, hW, hsame.mono (by decide) (by decide)⟩
  · show Steps p.tables e below (s₁.setTop (mkF m 0 #[.val (.ref w_SPACE), .val (.int 32), .unset] [])) _
    refine XS.aloadN X0.here hx rfl (hb hby d2_0) rfl rfl ?_
    show Steps p.tables e below (s₁.setTop (mkF m 1 #[.val (.ref w_SPACE), .val (.int 32), .unset] [(.ref w_SPACE)])) _
    refine st1 _ ?_
    show Steps p.tables e below (T1.setTop (mkF m 4 #[.val (.ref w_SPACE), .val (.int 32), .unset] [(.ref r_SPACE)])) _
    refine XS.iloadN X1.here hx rfl (hb hby d2_4) rfl ?_
    show Steps p.tables e below (T1.setTop (mkF m 5 #[.val (.ref w_SPACE), .val (.int 32), .unset] [(.int 32), (.ref r_SPACE)])) _
    refine st2 _ ?_
    show Steps p.tables e below (T2.setTop (mkF m 8 #[.val (.ref w_SPACE), .val (.int 32), .unset] [(.int 4)])) _
    refine XS.istoreN X2.here hx rfl (hb hby d2_8) rfl (l' := #[.val (.ref w_SPACE), .val (.int 32), .val (.int 4)]) rfl ?_
    show Steps p.tables e below (T2.setTop (mkF m 9 #[.val (.ref w_SPACE), .val (.int 32), .val (.int 4)] [])) _
    refine XS.iloadN X2.here hx rfl (hb hby d2_9) rfl ?_
    show Steps p.tables e below (T2.setTop (mkF m 10 #[.val (.ref w_SPACE), .val (.int 32), .val (.int 4)] [(.int 4)])) _
    refine XS.ifYes X2.here hx rfl (pc0 := 10) (pc' := 23) rfl (hb hby d2_10) rfl ((if0 _ _).trans (flt (by decide : ¬ ((4 : Int32) < (0 : Int32)))).2.1) (by decide) (by decide) ?_
    show Steps p.tables e below (T2.setTop (mkF m 23 #[.val (.ref w_SPACE), .val (.int 32), .val (.int 4)] [])) _
    refine XS.iconst X2.here hx rfl (hb hby d2_23) ?_
    show Steps p.tables e below (T2.setTop (mkF m 24 #[.val (.ref w_SPACE), .val (.int 32), .val (.int 4)] [(.int 1)])) _
    refine XS.goto X2.here hx rfl (pc0 := 24) (pc' := 28) rfl (hb hby d2_24) (by decide) (by decide) ?_
    show Steps p.tables e below (T2.setTop (mkF m 28 #[.val (.ref w_SPACE), .val (.int 32), .val (.int 4)] [(.int 1)])) _
    exact retN X2 hx (t := .boolean) Bd.returns (by simp) (hb hby d2_28) hr
  · show Q2_w_SPACE_32_all_SPACE Z w_SPACE r_SPACE k_SPACE h0 n0 _ T2.heap _
    rw [e2]
    exact ⟨(by rw [hret]), N2, rfl⟩
def Q4_r_SPACE_0_6_x_32_None (Z : State) (r_SPACE : Addr) (x : Int32) (k_SPACE : ClassId) (h0 : Heap) (n0 : Nat) (v : Option Value) (h : Heap) (L : List Loc) : Prop := v = some (.int (-7)) ∧ Fr n0 L ∧ h = h0
set_option maxRecDepth 65536 in
set_option maxHeartbeats 40000000 in
theorem rm4_r_SPACE_0_6_x_32_None (l : Launch) (Z : State) (a0 : Array Value) (hw : ∀ d ∈ tables_1, d.before a0 Z = true) (ws : List Jvm.Cond) (r_SPACE : Addr) (x : Int32) (k_SPACE : ClassId) (h0 : Heap) (n0 : Nat) (Z0 : n0 ≤ h0.size) (hlo_x : (32 : Int32) < x) (V_r_SPACE : Arv Z h0 r_SPACE k_SPACE .int (6 : Int32) [(.int 9), (.int 10), (.int 12), (.int 13), (.int 32), (.int 32)] (.int (0 : Int32))) :
    MetFree l (⟨"java/util/Arrays", "binarySearch0", "([IIII)I"⟩ : MethodName) (head1 (Jvm.Cond.code (⟨"java/util/Arrays", "binarySearch0", "([IIII)I"⟩ : MethodName) jdk_65_method_59_code 8 (some .int) :: ws) ({ frames := 0, cells := 0, slots := 0, locals := 0 } : Room)) (fun a U => a = #[(.ref r_SPACE), (.int 0), (.int 6), (.int x)] ∧ Z.Warmed39 U.vm ∧ U.heap = h0) (fun _ _ _ _ _ => True) (fun _ U o U' => ∃ v L, o = .returned v ∧ Q4_r_SPACE_0_6_x_32_None Z r_SPACE x k_SPACE h0 n0 v U'.heap L ∧ FrameEnd U o U' L ({ frames := 0, cells := 0, slots := 0, locals := 0 } : Room).cells ({ frames := 0, cells := 0, slots := 0, locals := 0 } : Room).slots) := by
  refine MetFree.of_bodySF (plainFor_of_name pn_4) hisR ?_
  intro p e s m args below meth c s₁ Bd hml0 hP hK
  obtain ⟨rfl, hZ, hh⟩ := hP
  have hx := Bd.exec
  have hby := Bd.bytes
  have hml : c.maxLocals = 8 := hml0
  have hown : s.vm.findClass "java/util/Arrays" = some m.cls := findClass_of_methodNamed Bd.named
  have hnm := (name_of_methodNamed Bd.named Bd.method).1
  have X0 : Stand p l e ({ frames := 0, cells := 0, slots := 0, locals := 0 } : Room) s m #[(.ref r_SPACE), (.int 0), (.int 6), (.int x)] below meth c s₁ [] 0 0 := Stand.of_body Bd
  have e0 : s₁.heap = h0 := by rw [← hh, Bd.state]; rfl
  have N0 := Fr.nil n0
  have pre0 : ∀ t, Steps p.tables e below (s₁.setTop (mkF m 0 #[.val (.ref r_SPACE), .val (.int 0), .val (.int 6), .val (.int x), .unset, .unset, .unset, .unset] [])) t → Steps p.tables e below (s₁.setTop (entryFrame m #[(.ref r_SPACE), (.int 0), (.int 6), (.int x)] 8)) t := fun t k => castTop (by first | (simp [entryFrame, mkF, argsToLocals, Value.category]; done) | rfl) k
  obtain ⟨fs, hr, hrun, hended, hW, hsame⟩ := X0.leave (v := some (.int (-7))) (fun h => by rw [Bd.returns] at h; cases h)
  refine ⟨_, _, pre0 _ ?_, hrun, hended, _, _, rfl, ?_, ⟨_, rfl⟩, hW, hsame.mono (by decide) (by decide)⟩
  · show Steps p.tables e below (s₁.setTop (mkF m 0 #[.val (.ref r_SPACE), .val (.int 0), .val (.int 6), .val (.int x), .unset, .unset, .unset, .unset] [])) _
    refine XS.iloadN X0.here hx rfl (hb hby d4_0) rfl ?_
    show Steps p.tables e below (s₁.setTop (mkF m 1 #[.val (.ref r_SPACE), .val (.int 0), .val (.int 6), .val (.int x), .unset, .unset, .unset, .unset] [(.int 0)])) _
    refine XS.istore X0.here hx rfl (hb hby d4_1) rfl (l' := #[.val (.ref r_SPACE), .val (.int 0), .val (.int 6), .val (.int x), .val (.int 0), .unset, .unset, .unset]) rfl ?_
    show Steps p.tables e below (s₁.setTop (mkF m 3 #[.val (.ref r_SPACE), .val (.int 0), .val (.int 6), .val (.int x), .val (.int 0), .unset, .unset, .unset] [])) _
    refine XS.iloadN X0.here hx rfl (hb hby d4_3) rfl ?_
    show Steps p.tables e below (s₁.setTop (mkF m 4 #[.val (.ref r_SPACE), .val (.int 0), .val (.int 6), .val (.int x), .val (.int 0), .unset, .unset, .unset] [(.int 6)])) _
    refine XS.iconst X0.here hx rfl (hb hby d4_4) ?_
    show Steps p.tables e below (s₁.setTop (mkF m 5 #[.val (.ref r_SPACE), .val (.int 0), .val (.int 6), .val (.int x), .val (.int 0), .unset, .unset, .unset] [(.int 1), (.int 6)])) _
    refine XS.isub X0.here hx rfl (hb hby d4_5) rfl ?_
    show Steps p.tables e below (s₁.setTop (mkF m 6 #[.val (.ref r_SPACE), .val (.int 0), .val (.int 6), .val (.int x), .val (.int 0), .unset, .unset, .unset] [(.int ((6 : Int32) - (1 : Int32)))])) _
    rw [(by decide : ((6 : Int32) - (1 : Int32)) = (5 : Int32))]
    show Steps p.tables e below (s₁.setTop (mkF m 6 #[.val (.ref r_SPACE), .val (.int 0), .val (.int 6), .val (.int x), .val (.int 0), .unset, .unset, .unset] [(.int 5)])) _
    refine XS.istore X0.here hx rfl (hb hby d4_6) rfl (l' := #[.val (.ref r_SPACE), .val (.int 0), .val (.int 6), .val (.int x), .val (.int 0), .val (.int 5), .unset, .unset]) rfl ?_
    show Steps p.tables e below (s₁.setTop (mkF m 8 #[.val (.ref r_SPACE), .val (.int 0), .val (.int 6), .val (.int x), .val (.int 0), .val (.int 5), .unset, .unset] [])) _
    refine tnLu r_SPACE (0 : Int32) (6 : Int32) x (0 : Int32) (5 : Int32) (2 : Int32) k_SPACE (6 : Int32) [(.int 9), (.int 10), (.int 12), (.int 13), (.int 32), (.int 32)] (.int (0 : Int32)) (12 : Int32) (3 : Int32) X0 hx hZ hby e0 (by decide) (by decide) V_r_SPACE ⟨by decide, by decide⟩ rfl (own_gt hlo_x (by decide)) (by decide) _ ?_
    show Steps p.tables e below (s₁.setTop (mkF m 8 #[.val (.ref r_SPACE), .val (.int 0), .val (.int 6), .val (.int x), .val (.int 3), .val (.int 5), .val (.int 2), .val (.int 12)] [])) _
    refine tnLv r_SPACE (0 : Int32) (6 : Int32) x (3 : Int32) (5 : Int32) (2 : Int32) (12 : Int32) (4 : Int32) k_SPACE (6 : Int32) [(.int 9), (.int 10), (.int 12), (.int 13), (.int 32), (.int 32)] (.int (0 : Int32)) (32 : Int32) (5 : Int32) X0 hx hZ hby e0 (by decide) (by decide) V_r_SPACE ⟨by decide, by decide⟩ rfl (own_gt hlo_x (by decide)) (by decide) _ ?_
    show Steps p.tables e below (s₁.setTop (mkF m 8 #[.val (.ref r_SPACE), .val (.int 0), .val (.int 6), .val (.int x), .val (.int 5), .val (.int 5), .val (.int 4), .val (.int 32)] [])) _
    refine tnLv r_SPACE (0 : Int32) (6 : Int32) x (5 : Int32) (5 : Int32) (4 : Int32) (32 : Int32) (5 : Int32) k_SPACE (6 : Int32) [(.int 9), (.int 10), (.int 12), (.int 13), (.int 32), (.int 32)] (.int (0 : Int32)) (32 : Int32) (6 : Int32) X0 hx hZ hby e0 (by decide) (by decide) V_r_SPACE ⟨by decide, by decide⟩ rfl (own_gt hlo_x (by decide)) (by decide) _ ?_
    show Steps p.tables e below (s₁.setTop (mkF m 8 #[.val (.ref r_SPACE), .val (.int 0), .val (.int 6), .val (.int x), .val (.int 6), .val (.int 5), .val (.int 5), .val (.int 32)] [])) _
    refine XS.iload X0.here hx rfl (hb hby d4_8) rfl ?_
    show Steps p.tables e below (s₁.setTop (mkF m 10 #[.val (.ref r_SPACE), .val (.int 0), .val (.int 6), .val (.int x), .val (.int 6), .val (.int 5), .val (.int 5), .val (.int 32)] [(.int 6)])) _
    refine XS.iload X0.here hx rfl (hb hby d4_10) rfl ?_
    show Steps p.tables e below (s₁.setTop (mkF m 12 #[.val (.ref r_SPACE), .val (.int 0), .val (.int 6), .val (.int x), .val (.int 6), .val (.int 5), .val (.int 5), .val (.int 32)] [(.int 5), (.int 6)])) _
    refine XS.icmpYes X0.here hx rfl (pc0 := 12) (pc' := 66) rfl (hb hby d4_12) rfl (tlt (by decide : (5 : Int32) < (6 : Int32))).2.2.1 (by decide) (by decide) ?_
    show Steps p.tables e below (s₁.setTop (mkF m 66 #[.val (.ref r_SPACE), .val (.int 0), .val (.int 6), .val (.int x), .val (.int 6), .val (.int 5), .val (.int 5), .val (.int 32)] [])) _
    refine XS.iload X0.here hx rfl (hb hby d4_66) rfl ?_
    show Steps p.tables e below (s₁.setTop (mkF m 68 #[.val (.ref r_SPACE), .val (.int 0), .val (.int 6), .val (.int x), .val (.int 6), .val (.int 5), .val (.int 5), .val (.int 32)] [(.int 6)])) _
    refine XS.iconst X0.here hx rfl (hb hby d4_68) ?_
    show Steps p.tables e below (s₁.setTop (mkF m 69 #[.val (.ref r_SPACE), .val (.int 0), .val (.int 6), .val (.int x), .val (.int 6), .val (.int 5), .val (.int 5), .val (.int 32)] [(.int 1), (.int 6)])) _
    refine XS.iadd X0.here hx rfl (hb hby d4_69) rfl ?_
    show Steps p.tables e below (s₁.setTop (mkF m 70 #[.val (.ref r_SPACE), .val (.int 0), .val (.int 6), .val (.int x), .val (.int 6), .val (.int 5), .val (.int 5), .val (.int 32)] [(.int ((6 : Int32) + (1 : Int32)))])) _
    rw [(by decide : ((6 : Int32) + (1 : Int32)) = (7 : Int32))]
    show Steps p.tables e below (s₁.setTop (mkF m 70 #[.val (.ref r_SPACE), .val (.int 0), .val (.int 6), .val (.int x), .val (.int 6), .val (.int 5), .val (.int 5), .val (.int 32)] [(.int 7)])) _
    refine XS.ineg X0.here hx rfl (hb hby d4_70) rfl ?_
    show Steps p.tables e below (s₁.setTop (mkF m 71 #[.val (.ref r_SPACE), .val (.int 0), .val (.int 6), .val (.int x), .val (.int 6), .val (.int 5), .val (.int 5), .val (.int 32)] [(.int (-(7 : Int32)))])) _
    rw [(by decide : (-(7 : Int32)) = (-7 : Int32))]
    show Steps p.tables e below (s₁.setTop (mkF m 71 #[.val (.ref r_SPACE), .val (.int 0), .val (.int 6), .val (.int x), .val (.int 6), .val (.int 5), .val (.int 5), .val (.int 32)] [(.int (-7))])) _
    exact retI X0 hx Bd.returns (hb hby d4_71) hr
  · show Q4_r_SPACE_0_6_x_32_None Z r_SPACE x k_SPACE h0 n0 _ s₁.heap _
    rw [e0]
    exact ⟨rfl, N0, rfl⟩
def Q3_r_SPACE_x_32_None (Z : State) (r_SPACE : Addr) (x : Int32) (k_SPACE : ClassId) (h0 : Heap) (n0 : Nat) (v : Option Value) (h : Heap) (L : List Loc) : Prop := v = some (.int (-7)) ∧ Fr n0 L ∧ h = h0
set_option maxRecDepth 65536 in
set_option maxHeartbeats 40000000 in
theorem rm3_r_SPACE_x_32_None (l : Launch) (Z : State) (a0 : Array Value) (hw : ∀ d ∈ tables_1, d.before a0 Z = true) (ws : List Jvm.Cond) (r_SPACE : Addr) (x : Int32) (k_SPACE : ClassId) (h0 : Heap) (n0 : Nat) (Z0 : n0 ≤ h0.size) (V_r_SPACE : Arv Z h0 r_SPACE k_SPACE .int (6 : Int32) [(.int 9), (.int 10), (.int 12), (.int 13), (.int 32), (.int 32)] (.int (0 : Int32))) (hlo_x : (32 : Int32) < x) :
    MetFree l (⟨"java/util/Arrays", "binarySearch", "([II)I"⟩ : MethodName) (head1 (Jvm.Cond.code (⟨"java/util/Arrays", "binarySearch", "([II)I"⟩ : MethodName) jdk_65_method_57_code 2 (some .int) :: ws) ({ frames := 1, cells := 0, slots := 0, locals := 19 } : Room)) (fun a U => a = #[(.ref r_SPACE), (.int x)] ∧ Z.Warmed39 U.vm ∧ U.heap = h0) (fun _ _ _ _ _ => True) (fun _ U o U' => ∃ v L, o = .returned v ∧ Q3_r_SPACE_x_32_None Z r_SPACE x k_SPACE h0 n0 v U'.heap L ∧ FrameEnd U o U' L ({ frames := 1, cells := 0, slots := 0, locals := 19 } : Room).cells ({ frames := 1, cells := 0, slots := 0, locals := 19 } : Room).slots) := by
  refine MetFree.of_bodySF (plainFor_of_name pn_3) hisR ?_
  intro p e s m args below meth c s₁ Bd hml0 hP hK
  obtain ⟨rfl, hZ, hh⟩ := hP
  have hx := Bd.exec
  have hby := Bd.bytes
  have hml : c.maxLocals = 2 := hml0
  have hown : s.vm.findClass "java/util/Arrays" = some m.cls := findClass_of_methodNamed Bd.named
  have hnm := (name_of_methodNamed Bd.named Bd.method).1
  have X0 : Stand p l e ({ frames := 1, cells := 0, slots := 0, locals := 19 } : Room) s m #[(.ref r_SPACE), (.int x)] below meth c s₁ [] 0 0 := Stand.of_body Bd
  have e0 : s₁.heap = h0 := by rw [← hh, Bd.state]; rfl
  have N0 := Fr.nil n0
  have pre0 : ∀ t, Steps p.tables e below (s₁.setTop (mkF m 0 #[.val (.ref r_SPACE), .val (.int x)] [])) t → Steps p.tables e below (s₁.setTop (entryFrame m #[(.ref r_SPACE), (.int x)] 2)) t := fun t k => castTop (by first | (simp [entryFrame, mkF, argsToLocals, Value.category]; done) | rfl) k
  obtain ⟨_, _, ⟨T1, L1, k1, n1⟩, -, X1, ⟨Lc1, hQ1, l1, y1, z1⟩, st1⟩ := Jvm.LawKit.callS X0 hx (y := (⟨"java/util/Arrays", "binarySearch0", "([IIII)I"⟩ : MethodName)) hown (mvT hZ (hw _ (List.mem_of_getElem? (i := 19) rfl))) (mvT hZ (hw _ (List.mem_of_getElem? (i := 20) rfl))) (mvT hZ (hw _ (List.mem_of_getElem? (i := 17) rfl))) (mvT hZ (hw _ (List.mem_of_getElem? (i := 21) rfl))) (by decide) (backOf (W := 0) (rm4_r_SPACE_0_6_x_32_None l Z a0 hw [] r_SPACE x k_SPACE h0 n0 Z0 hlo_x V_r_SPACE) hZ (hw _ (List.mem_of_getElem? (i := 21) rfl)) (hw _ (List.mem_of_getElem? (i := 17) rfl)) (by decide) (by decide)) (g := (mkF m 5 #[.val (.ref r_SPACE), .val (.int x)] [(.int x), (.int 6), (.int 0), (.ref r_SPACE)])) rfl (by rw [hml]; rfl) (argsL := [(.ref r_SPACE), (.int 0), (.int 6), (.int x)]) (rest := []) (lenOf pd___IIII_I rfl) rfl (by show 2 * 0 + _ ≤ _; exact Nat.le_of_eq rfl) (hb hby d3_5) (fun _ _ => ⟨rfl, e0, (by decide : 0 + 0 ≤ _), (by decide : 0 + 0 ≤ _)⟩)
  dsimp only [Pt.U, Pt.locs, Pt.cells, Pt.slots] at X1 l1 y1 z1 st1 hQ1
  subst l1 y1 z1
  obtain ⟨rfl, N1q, e1⟩ := hQ1
  have N1 := Fr.app N0 N1q
  obtain ⟨fs, hr, hrun, hended, hW, hsame⟩ := X1.leave (v := some (.int (-7))) (fun h => by rw [Bd.returns] at h; cases h)
  refine ⟨_, _, pre0 _ ?_, hrun, hended, _, _, rfl, ?_, ⟨_, rfl⟩, hW, hsame.mono (by decide) (by decide)⟩
  · show Steps p.tables e below (s₁.setTop (mkF m 0 #[.val (.ref r_SPACE), .val (.int x)] [])) _
    refine XS.aloadN X0.here hx rfl (hb hby d3_0) rfl rfl ?_
    show Steps p.tables e below (s₁.setTop (mkF m 1 #[.val (.ref r_SPACE), .val (.int x)] [(.ref r_SPACE)])) _
    refine XS.iconst X0.here hx rfl (hb hby d3_1) ?_
    show Steps p.tables e below (s₁.setTop (mkF m 2 #[.val (.ref r_SPACE), .val (.int x)] [(.int 0), (.ref r_SPACE)])) _
    refine XS.aloadN X0.here hx rfl (hb hby d3_2) rfl rfl ?_
    show Steps p.tables e below (s₁.setTop (mkF m 3 #[.val (.ref r_SPACE), .val (.int x)] [(.ref r_SPACE), (.int 0), (.ref r_SPACE)])) _
    refine own_lenz X0 hx hZ e0 V_r_SPACE (g := (mkF m 3 #[.val (.ref r_SPACE), .val (.int x)] [(.ref r_SPACE), (.int 0), (.ref r_SPACE)])) rfl rfl (hb hby d3_3) _ ?_
    show Steps p.tables e below (s₁.setTop (mkF m 4 #[.val (.ref r_SPACE), .val (.int x)] [(.int 6), (.int 0), (.ref r_SPACE)])) _
    refine XS.iloadN X0.here hx rfl (hb hby d3_4) rfl ?_
    show Steps p.tables e below (s₁.setTop (mkF m 5 #[.val (.ref r_SPACE), .val (.int x)] [(.int x), (.int 6), (.int 0), (.ref r_SPACE)])) _
    refine st1 _ ?_
    show Steps p.tables e below (T1.setTop (mkF m 8 #[.val (.ref r_SPACE), .val (.int x)] [(.int (-7))])) _
    exact retI X1 hx Bd.returns (hb hby d3_8) hr
  · show Q3_r_SPACE_x_32_None Z r_SPACE x k_SPACE h0 n0 _ T1.heap _
    rw [e1]
    exact ⟨rfl, N1, rfl⟩
def Q2_w_SPACE_x_32_None_all_SPACE (Z : State) (w_SPACE : Addr) (x : Int32) (r_SPACE : Addr) (k_SPACE : ClassId) (h0 : Heap) (n0 : Nat) (v : Option Value) (h : Heap) (L : List Loc) : Prop := v = some (.int (own_s x)) ∧ Fr n0 L ∧ h = h0
set_option maxRecDepth 65536 in
set_option maxHeartbeats 40000000 in
theorem rm2_w_SPACE_x_32_None_all_SPACE (l : Launch) (Z : State) (a0 : Array Value) (hw : ∀ d ∈ tables_1, d.before a0 Z = true) (ws : List Jvm.Cond) (w_SPACE : Addr) (x : Int32) (r_SPACE : Addr) (k_SPACE : ClassId) (h0 : Heap) (n0 : Nat) (Z0 : n0 ≤ h0.size) (F_ranges_w_SPACE : Fld Z h0 w_SPACE "com/example/termwell/termwell/core/text/CodePointSet" "ranges" "[I" (.ref r_SPACE)) (V_r_SPACE : Arv Z h0 r_SPACE k_SPACE .int (6 : Int32) [(.int 9), (.int 10), (.int 12), (.int 13), (.int 32), (.int 32)] (.int (0 : Int32))) (hlo_x : (32 : Int32) < x) (hret : (own_s x) = (0 : Int32)) :
    MetFree l (⟨"com/example/termwell/termwell/core/text/CodePointSet", "contains", "(I)Z"⟩ : MethodName) (head1 (Jvm.Cond.code (⟨"com/example/termwell/termwell/core/text/CodePointSet", "contains", "(I)Z"⟩ : MethodName) prog_19_method_4_code 3 (some .boolean) :: ws) ({ frames := 2, cells := 0, slots := 0, locals := 32 } : Room)) (fun a U => a = #[(.ref w_SPACE), (.int x)] ∧ Z.Warmed39 U.vm ∧ U.heap = h0) (fun _ _ _ _ _ => True) (fun _ U o U' => ∃ v L, o = .returned v ∧ Q2_w_SPACE_x_32_None_all_SPACE Z w_SPACE x r_SPACE k_SPACE h0 n0 v U'.heap L ∧ FrameEnd U o U' L ({ frames := 2, cells := 0, slots := 0, locals := 32 } : Room).cells ({ frames := 2, cells := 0, slots := 0, locals := 32 } : Room).slots) := by
  refine MetFree.of_bodySF (plainFor_of_name pn_2) hisR ?_
  intro p e s m args below meth c s₁ Bd hml0 hP hK
  obtain ⟨rfl, hZ, hh⟩ := hP
  have hx := Bd.exec
  have hby := Bd.bytes
  have hml : c.maxLocals = 3 := hml0
  have hown : s.vm.findClass "com/example/termwell/termwell/core/text/CodePointSet" = some m.cls := findClass_of_methodNamed Bd.named
  have hnm := (name_of_methodNamed Bd.named Bd.method).1
  have X0 : Stand p l e ({ frames := 2, cells := 0, slots := 0, locals := 32 } : Room) s m #[(.ref w_SPACE), (.int x)] below meth c s₁ [] 0 0 := Stand.of_body Bd
  have e0 : s₁.heap = h0 := by rw [← hh, Bd.state]; rfl
  have N0 := Fr.nil n0
  have pre0 : ∀ t, Steps p.tables e below (s₁.setTop (mkF m 0 #[.val (.ref w_SPACE), .val (.int x), .unset] [])) t → Steps p.tables e below (s₁.setTop (entryFrame m #[(.ref w_SPACE), (.int x)] 3)) t := fun t k => castTop (by first | (simp [entryFrame, mkF, argsToLocals, Value.category]; done) | rfl) k
  obtain ⟨T1, X1, e1, st1⟩ := getF X0 hx hZ hown (host := "") (Or.inl (hw _ (List.mem_of_getElem? (i := 13) rfl))) Via.refl e0 F_ranges_w_SPACE (g := (mkF m 1 #[.val (.ref w_SPACE), .val (.int x), .unset] [(.ref w_SPACE)])) rfl rfl (hb hby d2_1)
  obtain ⟨_, _, ⟨T2, L2, k2, n2⟩, -, X2, ⟨Lc2, hQ2, l2, y2, z2⟩, st2⟩ := Jvm.LawKit.callS X1 hx (y := (⟨"java/util/Arrays", "binarySearch", "([II)I"⟩ : MethodName)) hown (mvT hZ (hw _ (List.mem_of_getElem? (i := 15) rfl))) (mvT hZ (hw _ (List.mem_of_getElem? (i := 16) rfl))) (mvT hZ (hw _ (List.mem_of_getElem? (i := 17) rfl))) (mvT hZ (hw _ (List.mem_of_getElem? (i := 18) rfl))) (by decide) (backOf (W := 0) (rm3_r_SPACE_x_32_None l Z a0 hw [] r_SPACE x k_SPACE h0 n0 Z0 V_r_SPACE hlo_x) hZ (hw _ (List.mem_of_getElem? (i := 18) rfl)) (hw _ (List.mem_of_getElem? (i := 17) rfl)) (by decide) (by decide)) (g := (mkF m 5 #[.val (.ref w_SPACE), .val (.int x), .unset] [(.int x), (.ref r_SPACE)])) rfl (by rw [hml]; rfl) (argsL := [(.ref r_SPACE), (.int x)]) (rest := []) (lenOf pd___II_I rfl) rfl (by show 2 * 0 + _ ≤ _; exact Nat.le_of_eq rfl) (hb hby d2_5) (fun _ _ => ⟨rfl, e1, (by decide : 0 + 0 ≤ _), (by decide : 0 + 0 ≤ _)⟩)
  dsimp only [Pt.U, Pt.locs, Pt.cells, Pt.slots] at X2 l2 y2 z2 st2 hQ2
  subst l2 y2 z2
  obtain ⟨rfl, N2q, e2⟩ := hQ2
  have N2 := Fr.app N0 N2q
  obtain ⟨fs, hr, hrun, hended, hW, hsame⟩ := X2.leave (v := some (.int 0)) (fun h => by rw [Bd.returns] at h; cases h)
  refine ⟨_, _, pre0 _ ?_, hrun, hended, _, _, rfl, ?_, ⟨_, rfl⟩, hW, hsame.mono (by decide) (by decide)⟩
  · show Steps p.tables e below (s₁.setTop (mkF m 0 #[.val (.ref w_SPACE), .val (.int x), .unset] [])) _
    refine XS.aloadN X0.here hx rfl (hb hby d2_0) rfl rfl ?_
    show Steps p.tables e below (s₁.setTop (mkF m 1 #[.val (.ref w_SPACE), .val (.int x), .unset] [(.ref w_SPACE)])) _
    refine st1 _ ?_
    show Steps p.tables e below (T1.setTop (mkF m 4 #[.val (.ref w_SPACE), .val (.int x), .unset] [(.ref r_SPACE)])) _
    refine XS.iloadN X1.here hx rfl (hb hby d2_4) rfl ?_
    show Steps p.tables e below (T1.setTop (mkF m 5 #[.val (.ref w_SPACE), .val (.int x), .unset] [(.int x), (.ref r_SPACE)])) _
    refine st2 _ ?_
    show Steps p.tables e below (T2.setTop (mkF m 8 #[.val (.ref w_SPACE), .val (.int x), .unset] [(.int (-7))])) _
    refine XS.istoreN X2.here hx rfl (hb hby d2_8) rfl (l' := #[.val (.ref w_SPACE), .val (.int x), .val (.int (-7))]) rfl ?_
    show Steps p.tables e below (T2.setTop (mkF m 9 #[.val (.ref w_SPACE), .val (.int x), .val (.int (-7))] [])) _
    refine XS.iloadN X2.here hx rfl (hb hby d2_9) rfl ?_
    show Steps p.tables e below (T2.setTop (mkF m 10 #[.val (.ref w_SPACE), .val (.int x), .val (.int (-7))] [(.int (-7))])) _
    refine XS.ifNo X2.here hx rfl (hb hby d2_10) rfl ((if0 _ _).trans (tlt (by decide : (-7 : Int32) < (0 : Int32))).2.1) ?_
    show Steps p.tables e below (T2.setTop (mkF m 13 #[.val (.ref w_SPACE), .val (.int x), .val (.int (-7))] [])) _
    refine XS.iloadN X2.here hx rfl (hb hby d2_13) rfl ?_
    show Steps p.tables e below (T2.setTop (mkF m 14 #[.val (.ref w_SPACE), .val (.int x), .val (.int (-7))] [(.int (-7))])) _
    refine XS.ineg X2.here hx rfl (hb hby d2_14) rfl ?_
    show Steps p.tables e below (T2.setTop (mkF m 15 #[.val (.ref w_SPACE), .val (.int x), .val (.int (-7))] [(.int (-(-7 : Int32)))])) _
    rw [(by decide : (-(-7 : Int32)) = (7 : Int32))]
    show Steps p.tables e below (T2.setTop (mkF m 15 #[.val (.ref w_SPACE), .val (.int x), .val (.int (-7))] [(.int 7)])) _
    refine XS.iconst X2.here hx rfl (hb hby d2_15) ?_
    show Steps p.tables e below (T2.setTop (mkF m 16 #[.val (.ref w_SPACE), .val (.int x), .val (.int (-7))] [(.int 1), (.int 7)])) _
    refine XS.isub X2.here hx rfl (hb hby d2_16) rfl ?_
    show Steps p.tables e below (T2.setTop (mkF m 17 #[.val (.ref w_SPACE), .val (.int x), .val (.int (-7))] [(.int ((7 : Int32) - (1 : Int32)))])) _
    rw [(by decide : ((7 : Int32) - (1 : Int32)) = (6 : Int32))]
    show Steps p.tables e below (T2.setTop (mkF m 17 #[.val (.ref w_SPACE), .val (.int x), .val (.int (-7))] [(.int 6)])) _
    refine XS.iconst X2.here hx rfl (hb hby d2_17) ?_
    show Steps p.tables e below (T2.setTop (mkF m 18 #[.val (.ref w_SPACE), .val (.int x), .val (.int (-7))] [(.int 2), (.int 6)])) _
    refine iremM X2 hx rfl (hb hby d2_18) rfl (by decide) ?_
    show Steps p.tables e below (T2.setTop (mkF m 19 #[.val (.ref w_SPACE), .val (.int x), .val (.int (-7))] [(.int ((6 : Int32) % (2 : Int32)))])) _
    rw [(by decide : ((6 : Int32) % (2 : Int32)) = (0 : Int32))]
    show Steps p.tables e below (T2.setTop (mkF m 19 #[.val (.ref w_SPACE), .val (.int x), .val (.int (-7))] [(.int 0)])) _
    refine XS.iconst X2.here hx rfl (hb hby d2_19) ?_
    show Steps p.tables e below (T2.setTop (mkF m 20 #[.val (.ref w_SPACE), .val (.int x), .val (.int (-7))] [(.int 1), (.int 0)])) _
    refine XS.icmpYes X2.here hx rfl (pc0 := 20) (pc' := 27) rfl (hb hby d2_20) rfl (feq (by decide : ¬ ((0 : Int32) = (1 : Int32)))).2 (by decide) (by decide) ?_
    show Steps p.tables e below (T2.setTop (mkF m 27 #[.val (.ref w_SPACE), .val (.int x), .val (.int (-7))] [])) _
    refine XS.iconst X2.here hx rfl (hb hby d2_27) ?_
    show Steps p.tables e below (T2.setTop (mkF m 28 #[.val (.ref w_SPACE), .val (.int x), .val (.int (-7))] [(.int 0)])) _
    exact retN X2 hx (t := .boolean) Bd.returns (by simp) (hb hby d2_28) hr
  · show Q2_w_SPACE_x_32_None_all_SPACE Z w_SPACE x r_SPACE k_SPACE h0 n0 _ T2.heap _
    rw [e2]
    exact ⟨(by rw [hret]), N2, rfl⟩
def Q2_all_SPACE (Z : State) (x : Int32) (w_SPACE : Addr) (r_SPACE : Addr) (k_SPACE : ClassId) (h0 : Heap) (n0 : Nat) (v : Option Value) (h : Heap) (L : List Loc) : Prop := v = some (.int (own_s x)) ∧ Fr n0 L ∧ h = h0
set_option maxRecDepth 65536 in
set_option maxHeartbeats 40000000 in
theorem rm2_all_SPACE (l : Launch) (Z : State) (a0 : Array Value) (hw : ∀ d ∈ tables_1, d.before a0 Z = true) (ws : List Jvm.Cond) (x : Int32) (w_SPACE : Addr) (r_SPACE : Addr) (k_SPACE : ClassId) (h0 : Heap) (n0 : Nat) (Z0 : n0 ≤ h0.size) (F_ranges_w_SPACE : Fld Z h0 w_SPACE "com/example/termwell/termwell/core/text/CodePointSet" "ranges" "[I" (.ref r_SPACE)) (V_r_SPACE : Arv Z h0 r_SPACE k_SPACE .int (6 : Int32) [(.int 9), (.int 10), (.int 12), (.int 13), (.int 32), (.int 32)] (.int (0 : Int32))) :
    MetFree l (⟨"com/example/termwell/termwell/core/text/CodePointSet", "contains", "(I)Z"⟩ : MethodName) (head1 (Jvm.Cond.code (⟨"com/example/termwell/termwell/core/text/CodePointSet", "contains", "(I)Z"⟩ : MethodName) prog_19_method_4_code 3 (some .boolean) :: ws) ({ frames := 2, cells := 0, slots := 0, locals := 32 } : Room)) (fun a U => a = #[(.ref w_SPACE), (.int x)] ∧ Z.Warmed39 U.vm ∧ U.heap = h0) (fun _ _ _ _ _ => True) (fun _ U o U' => ∃ v L, o = .returned v ∧ Q2_all_SPACE Z x w_SPACE r_SPACE k_SPACE h0 n0 v U'.heap L ∧ FrameEnd U o U' L ({ frames := 2, cells := 0, slots := 0, locals := 32 } : Room).cells ({ frames := 2, cells := 0, slots := 0, locals := 32 } : Room).slots) := by
  rcases (by omega : (x.toInt < 9) ∨ (x.toInt = 9) ∨ (x.toInt = 10) ∨ (x.toInt = 11) ∨ (x.toInt = 12) ∨ (x.toInt = 13) ∨ (13 < x.toInt ∧ x.toInt < 32) ∨ (x.toInt = 32) ∨ (32 < x.toInt)) with h | h | h | h | h | h | h | h | h
  · exact rm2_w_SPACE_x_None_9_all_SPACE l Z a0 hw ws w_SPACE x r_SPACE k_SPACE h0 n0 Z0 F_ranges_w_SPACE V_r_SPACE (own_ilt (by decide) h) (by unfold own_s; (repeat' split) <;> first | rfl | (exfalso; omega))
  · obtain rfl : x = (9 : Int32) := Int32.toInt_inj.mp (h.trans (by decide))
    exact rm2_w_SPACE_9_all_SPACE l Z a0 hw ws w_SPACE r_SPACE k_SPACE h0 n0 Z0 F_ranges_w_SPACE V_r_SPACE (by decide)
  · obtain rfl : x = (10 : Int32) := Int32.toInt_inj.mp (h.trans (by decide))
    exact rm2_w_SPACE_10_all_SPACE l Z a0 hw ws w_SPACE r_SPACE k_SPACE h0 n0 Z0 F_ranges_w_SPACE V_r_SPACE (by decide)
  · obtain rfl : x = (11 : Int32) := Int32.toInt_inj.mp (h.trans (by decide))
    exact rm2_w_SPACE_11_all_SPACE l Z a0 hw ws w_SPACE r_SPACE k_SPACE h0 n0 Z0 F_ranges_w_SPACE V_r_SPACE (by decide)
  · obtain rfl : x = (12 : Int32) := Int32.toInt_inj.mp (h.trans (by decide))
    exact rm2_w_SPACE_12_all_SPACE l Z a0 hw ws w_SPACE r_SPACE k_SPACE h0 n0 Z0 F_ranges_w_SPACE V_r_SPACE (by decide)
  · obtain rfl : x = (13 : Int32) := Int32.toInt_inj.mp (h.trans (by decide))
    exact rm2_w_SPACE_13_all_SPACE l Z a0 hw ws w_SPACE r_SPACE k_SPACE h0 n0 Z0 F_ranges_w_SPACE V_r_SPACE (by decide)
  · exact rm2_w_SPACE_x_13_32_all_SPACE l Z a0 hw ws w_SPACE x r_SPACE k_SPACE h0 n0 Z0 F_ranges_w_SPACE V_r_SPACE (own_igt (by decide) h.1) (own_ilt (by decide) h.2) (by unfold own_s; (repeat' split) <;> first | rfl | (exfalso; omega))
  · obtain rfl : x = (32 : Int32) := Int32.toInt_inj.mp (h.trans (by decide))
    exact rm2_w_SPACE_32_all_SPACE l Z a0 hw ws w_SPACE r_SPACE k_SPACE h0 n0 Z0 F_ranges_w_SPACE V_r_SPACE (by decide)
  · exact rm2_w_SPACE_x_32_None_all_SPACE l Z a0 hw ws w_SPACE x r_SPACE k_SPACE h0 n0 Z0 F_ranges_w_SPACE V_r_SPACE (own_igt (by decide) h) (by unfold own_s; (repeat' split) <;> first | rfl | (exfalso; omega))
def Q5_1_x_None_9_all_SPACE (Z : State) (x : Int32) (h0 : Heap) (n0 : Nat) (v : Option Value) (h : Heap) (L : List Loc) : Prop := v = some (.int (own_s x)) ∧ Fr n0 L ∧ h = h0
set_option maxRecDepth 65536 in
set_option maxHeartbeats 40000000 in
theorem rm5_1_x_None_9_all_SPACE (l : Launch) (Z : State) (a0 : Array Value) (hw : ∀ d ∈ tables_1, d.before a0 Z = true) (ws : List Jvm.Cond) (x : Int32) (h0 : Heap) (n0 : Nat) (Z0 : n0 ≤ h0.size) (hhi_x : x < (9 : Int32)) (hret : (own_s x) = (0 : Int32)) :
    MetFree l (⟨"com/example/termwell/termwell/core/text/CharClassesPerlPinLaw", "expected", "(II)Z"⟩ : MethodName) (head1 (Jvm.Cond.code (⟨"com/example/termwell/termwell/core/text/CharClassesPerlPinLaw", "expected", "(II)Z"⟩ : MethodName) method_2_code 2 (some .boolean) :: ws) ({ frames := 0, cells := 0, slots := 0, locals := 0 } : Room)) (fun a U => a = #[(.int 1), (.int x)] ∧ Z.Warmed39 U.vm ∧ U.heap = h0) (fun _ _ _ _ _ => True) (fun _ U o U' => ∃ v L, o = .returned v ∧ Q5_1_x_None_9_all_SPACE Z x h0 n0 v U'.heap L ∧ FrameEnd U o U' L ({ frames := 0, cells := 0, slots := 0, locals := 0 } : Room).cells ({ frames := 0, cells := 0, slots := 0, locals := 0 } : Room).slots) := by
  refine MetFree.of_bodySF (plainFor_of_name pn_5) hisR ?_
  intro p e s m args below meth c s₁ Bd hml0 hP hK
  obtain ⟨rfl, hZ, hh⟩ := hP
  have hx := Bd.exec
  have hby := Bd.bytes
  have hml : c.maxLocals = 2 := hml0
  have hown : s.vm.findClass "com/example/termwell/termwell/core/text/CharClassesPerlPinLaw" = some m.cls := findClass_of_methodNamed Bd.named
  have hnm := (name_of_methodNamed Bd.named Bd.method).1
  have X0 : Stand p l e ({ frames := 0, cells := 0, slots := 0, locals := 0 } : Room) s m #[(.int 1), (.int x)] below meth c s₁ [] 0 0 := Stand.of_body Bd
  have e0 : s₁.heap = h0 := by rw [← hh, Bd.state]; rfl
  have N0 := Fr.nil n0
  have pre0 : ∀ t, Steps p.tables e below (s₁.setTop (mkF m 0 #[.val (.int 1), .val (.int x)] [])) t → Steps p.tables e below (s₁.setTop (entryFrame m #[(.int 1), (.int x)] 2)) t := fun t k => castTop (by first | (simp [entryFrame, mkF, argsToLocals, Value.category]; done) | rfl) k
  obtain ⟨fs, hr, hrun, hended, hW, hsame⟩ := X0.leave (v := some (.int 0)) (fun h => by rw [Bd.returns] at h; cases h)
  refine ⟨_, _, pre0 _ ?_, hrun, hended, _, _, rfl, ?_, ⟨_, rfl⟩, hW, hsame.mono (by decide) (by decide)⟩
  · show Steps p.tables e below (s₁.setTop (mkF m 0 #[.val (.int 1), .val (.int x)] [])) _
    refine XS.iloadN X0.here hx rfl (hb hby d5_0) rfl ?_
    show Steps p.tables e below (s₁.setTop (mkF m 1 #[.val (.int 1), .val (.int x)] [(.int 1)])) _
    refine XS.ifYes X0.here hx rfl (pc0 := 1) (pc' := 22) rfl (hb hby d5_1) rfl ((if0 _ _).trans (feq (by decide : ¬ ((1 : Int32) = (0 : Int32)))).2) (by decide) (by decide) ?_
    show Steps p.tables e below (s₁.setTop (mkF m 22 #[.val (.int 1), .val (.int x)] [])) _
    refine XS.iloadN X0.here hx rfl (hb hby d5_22) rfl ?_
    show Steps p.tables e below (s₁.setTop (mkF m 23 #[.val (.int 1), .val (.int x)] [(.int 1)])) _
    refine XS.iconst X0.here hx rfl (hb hby d5_23) ?_
    show Steps p.tables e below (s₁.setTop (mkF m 24 #[.val (.int 1), .val (.int x)] [(.int 1), (.int 1)])) _
    refine XS.icmpNo X0.here hx rfl (hb hby d5_24) rfl (teq (by decide : (1 : Int32) = (1 : Int32))).2 ?_
    show Steps p.tables e below (s₁.setTop (mkF m 27 #[.val (.int 1), .val (.int x)] [])) _
    refine XS.iloadN X0.here hx rfl (hb hby d5_27) rfl ?_
    show Steps p.tables e below (s₁.setTop (mkF m 28 #[.val (.int 1), .val (.int x)] [(.int x)])) _
    refine XS.bipush X0.here hx rfl (hb hby d5_28) ?_
    show Steps p.tables e below (s₁.setTop (mkF m 30 #[.val (.int 1), .val (.int x)] [(.int 9), (.int x)])) _
    refine XS.icmpNo X0.here hx rfl (hb hby d5_30) rfl (feq (own_nehi hhi_x (by decide) : ¬ (x = (9 : Int32)))).1 ?_
    show Steps p.tables e below (s₁.setTop (mkF m 33 #[.val (.int 1), .val (.int x)] [])) _
    refine XS.iloadN X0.here hx rfl (hb hby d5_33) rfl ?_
    show Steps p.tables e below (s₁.setTop (mkF m 34 #[.val (.int 1), .val (.int x)] [(.int x)])) _
    refine XS.bipush X0.here hx rfl (hb hby d5_34) ?_
    show Steps p.tables e below (s₁.setTop (mkF m 36 #[.val (.int 1), .val (.int x)] [(.int 10), (.int x)])) _
    refine XS.icmpNo X0.here hx rfl (hb hby d5_36) rfl (feq (own_nehi hhi_x (by decide) : ¬ (x = (10 : Int32)))).1 ?_
    show Steps p.tables e below (s₁.setTop (mkF m 39 #[.val (.int 1), .val (.int x)] [])) _
    refine XS.iloadN X0.here hx rfl (hb hby d5_39) rfl ?_
    show Steps p.tables e below (s₁.setTop (mkF m 40 #[.val (.int 1), .val (.int x)] [(.int x)])) _
    refine XS.bipush X0.here hx rfl (hb hby d5_40) ?_
    show Steps p.tables e below (s₁.setTop (mkF m 42 #[.val (.int 1), .val (.int x)] [(.int 12), (.int x)])) _
    refine XS.icmpNo X0.here hx rfl (hb hby d5_42) rfl (feq (own_nehi hhi_x (by decide) : ¬ (x = (12 : Int32)))).1 ?_
    show Steps p.tables e below (s₁.setTop (mkF m 45 #[.val (.int 1), .val (.int x)] [])) _
    refine XS.iloadN X0.here hx rfl (hb hby d5_45) rfl ?_
    show Steps p.tables e below (s₁.setTop (mkF m 46 #[.val (.int 1), .val (.int x)] [(.int x)])) _
    refine XS.bipush X0.here hx rfl (hb hby d5_46) ?_
    show Steps p.tables e below (s₁.setTop (mkF m 48 #[.val (.int 1), .val (.int x)] [(.int 13), (.int x)])) _
    refine XS.icmpNo X0.here hx rfl (hb hby d5_48) rfl (feq (own_nehi hhi_x (by decide) : ¬ (x = (13 : Int32)))).1 ?_
    show Steps p.tables e below (s₁.setTop (mkF m 51 #[.val (.int 1), .val (.int x)] [])) _
    refine XS.iloadN X0.here hx rfl (hb hby d5_51) rfl ?_
    show Steps p.tables e below (s₁.setTop (mkF m 52 #[.val (.int 1), .val (.int x)] [(.int x)])) _
    refine XS.bipush X0.here hx rfl (hb hby d5_52) ?_
    show Steps p.tables e below (s₁.setTop (mkF m 54 #[.val (.int 1), .val (.int x)] [(.int 32), (.int x)])) _
    refine XS.icmpYes X0.here hx rfl (pc0 := 54) (pc' := 61) rfl (hb hby d5_54) rfl (feq (own_nehi hhi_x (by decide) : ¬ (x = (32 : Int32)))).2 (by decide) (by decide) ?_
    show Steps p.tables e below (s₁.setTop (mkF m 61 #[.val (.int 1), .val (.int x)] [])) _
    refine XS.iconst X0.here hx rfl (hb hby d5_61) ?_
    show Steps p.tables e below (s₁.setTop (mkF m 62 #[.val (.int 1), .val (.int x)] [(.int 0)])) _
    exact retN X0 hx (t := .boolean) Bd.returns (by simp) (hb hby d5_62) hr
  · show Q5_1_x_None_9_all_SPACE Z x h0 n0 _ s₁.heap _
    rw [e0]
    exact ⟨(by rw [hret]), N0, rfl⟩
def Q5_1_9_all_SPACE (Z : State)  (h0 : Heap) (n0 : Nat) (v : Option Value) (h : Heap) (L : List Loc) : Prop := v = some (.int (own_s (9 : Int32))) ∧ Fr n0 L ∧ h = h0
set_option maxRecDepth 65536 in
set_option maxHeartbeats 40000000 in
theorem rm5_1_9_all_SPACE (l : Launch) (Z : State) (a0 : Array Value) (hw : ∀ d ∈ tables_1, d.before a0 Z = true) (ws : List Jvm.Cond)  (h0 : Heap) (n0 : Nat) (Z0 : n0 ≤ h0.size) (hret : (own_s (9 : Int32)) = (1 : Int32)) :
    MetFree l (⟨"com/example/termwell/termwell/core/text/CharClassesPerlPinLaw", "expected", "(II)Z"⟩ : MethodName) (head1 (Jvm.Cond.code (⟨"com/example/termwell/termwell/core/text/CharClassesPerlPinLaw", "expected", "(II)Z"⟩ : MethodName) method_2_code 2 (some .boolean) :: ws) ({ frames := 0, cells := 0, slots := 0, locals := 0 } : Room)) (fun a U => a = #[(.int 1), (.int 9)] ∧ Z.Warmed39 U.vm ∧ U.heap = h0) (fun _ _ _ _ _ => True) (fun _ U o U' => ∃ v L, o = .returned v ∧ Q5_1_9_all_SPACE Z  h0 n0 v U'.heap L ∧ FrameEnd U o U' L ({ frames := 0, cells := 0, slots := 0, locals := 0 } : Room).cells ({ frames := 0, cells := 0, slots := 0, locals := 0 } : Room).slots) := by
  refine MetFree.of_bodySF (plainFor_of_name pn_5) hisR ?_
  intro p e s m args below meth c s₁ Bd hml0 hP hK
  obtain ⟨rfl, hZ, hh⟩ := hP
  have hx := Bd.exec
  have hby := Bd.bytes
  have hml : c.maxLocals = 2 := hml0
  have hown : s.vm.findClass "com/example/termwell/termwell/core/text/CharClassesPerlPinLaw" = some m.cls := findClass_of_methodNamed Bd.named
  have hnm := (name_of_methodNamed Bd.named Bd.method).1
  have X0 : Stand p l e ({ frames := 0, cells := 0, slots := 0, locals := 0 } : Room) s m #[(.int 1), (.int 9)] below meth c s₁ [] 0 0 := Stand.of_body Bd
  have e0 : s₁.heap = h0 := by rw [← hh, Bd.state]; rfl
  have N0 := Fr.nil n0
  have pre0 : ∀ t, Steps p.tables e below (s₁.setTop (mkF m 0 #[.val (.int 1), .val (.int 9)] [])) t → Steps p.tables e below (s₁.setTop (entryFrame m #[(.int 1), (.int 9)] 2)) t := fun t k => castTop (by first | (simp [entryFrame, mkF, argsToLocals, Value.category]; done) | rfl) k
  obtain ⟨fs, hr, hrun, hended, hW, hsame⟩ := X0.leave (v := some (.int 1)) (fun h => by rw [Bd.returns] at h; cases h)
  refine ⟨_, _, pre0 _ ?_, hrun, hended, _, _, rfl, ?_, ⟨_, rfl⟩, hW, hsame.mono (by decide) (by decide)⟩
  · show Steps p.tables e below (s₁.setTop (mkF m 0 #[.val (.int 1), .val (.int 9)] [])) _
    refine XS.iloadN X0.here hx rfl (hb hby d5_0) rfl ?_
    show Steps p.tables e below (s₁.setTop (mkF m 1 #[.val (.int 1), .val (.int 9)] [(.int 1)])) _
    refine XS.ifYes X0.here hx rfl (pc0 := 1) (pc' := 22) rfl (hb hby d5_1) rfl ((if0 _ _).trans (feq (by decide : ¬ ((1 : Int32) = (0 : Int32)))).2) (by decide) (by decide) ?_
    show Steps p.tables e below (s₁.setTop (mkF m 22 #[.val (.int 1), .val (.int 9)] [])) _
    refine XS.iloadN X0.here hx rfl (hb hby d5_22) rfl ?_
    show Steps p.tables e below (s₁.setTop (mkF m 23 #[.val (.int 1), .val (.int 9)] [(.int 1)])) _
    refine XS.iconst X0.here hx rfl (hb hby d5_23) ?_
    show Steps p.tables e below (s₁.setTop (mkF m 24 #[.val (.int 1), .val (.int 9)] [(.int 1), (.int 1)])) _
    refine XS.icmpNo X0.here hx rfl (hb hby d5_24) rfl (teq (by decide : (1 : Int32) = (1 : Int32))).2 ?_
    show Steps p.tables e below (s₁.setTop (mkF m 27 #[.val (.int 1), .val (.int 9)] [])) _
    refine XS.iloadN X0.here hx rfl (hb hby d5_27) rfl ?_
    show Steps p.tables e below (s₁.setTop (mkF m 28 #[.val (.int 1), .val (.int 9)] [(.int 9)])) _
    refine XS.bipush X0.here hx rfl (hb hby d5_28) ?_
    show Steps p.tables e below (s₁.setTop (mkF m 30 #[.val (.int 1), .val (.int 9)] [(.int 9), (.int 9)])) _
    refine XS.icmpYes X0.here hx rfl (pc0 := 30) (pc' := 57) rfl (hb hby d5_30) rfl (teq (by decide : (9 : Int32) = (9 : Int32))).1 (by decide) (by decide) ?_
    show Steps p.tables e below (s₁.setTop (mkF m 57 #[.val (.int 1), .val (.int 9)] [])) _
    refine XS.iconst X0.here hx rfl (hb hby d5_57) ?_
    show Steps p.tables e below (s₁.setTop (mkF m 58 #[.val (.int 1), .val (.int 9)] [(.int 1)])) _
    refine XS.goto X0.here hx rfl (pc0 := 58) (pc' := 62) rfl (hb hby d5_58) (by decide) (by decide) ?_
    show Steps p.tables e below (s₁.setTop (mkF m 62 #[.val (.int 1), .val (.int 9)] [(.int 1)])) _
    exact retN X0 hx (t := .boolean) Bd.returns (by simp) (hb hby d5_62) hr
  · show Q5_1_9_all_SPACE Z  h0 n0 _ s₁.heap _
    rw [e0]
    exact ⟨(by rw [hret]), N0, rfl⟩
def Q5_1_10_all_SPACE (Z : State)  (h0 : Heap) (n0 : Nat) (v : Option Value) (h : Heap) (L : List Loc) : Prop := v = some (.int (own_s (10 : Int32))) ∧ Fr n0 L ∧ h = h0
set_option maxRecDepth 65536 in
set_option maxHeartbeats 40000000 in
theorem rm5_1_10_all_SPACE (l : Launch) (Z : State) (a0 : Array Value) (hw : ∀ d ∈ tables_1, d.before a0 Z = true) (ws : List Jvm.Cond)  (h0 : Heap) (n0 : Nat) (Z0 : n0 ≤ h0.size) (hret : (own_s (10 : Int32)) = (1 : Int32)) :
    MetFree l (⟨"com/example/termwell/termwell/core/text/CharClassesPerlPinLaw", "expected", "(II)Z"⟩ : MethodName) (head1 (Jvm.Cond.code (⟨"com/example/termwell/termwell/core/text/CharClassesPerlPinLaw", "expected", "(II)Z"⟩ : MethodName) method_2_code 2 (some .boolean) :: ws) ({ frames := 0, cells := 0, slots := 0, locals := 0 } : Room)) (fun a U => a = #[(.int 1), (.int 10)] ∧ Z.Warmed39 U.vm ∧ U.heap = h0) (fun _ _ _ _ _ => True) (fun _ U o U' => ∃ v L, o = .returned v ∧ Q5_1_10_all_SPACE Z  h0 n0 v U'.heap L ∧ FrameEnd U o U' L ({ frames := 0, cells := 0, slots := 0, locals := 0 } : Room).cells ({ frames := 0, cells := 0, slots := 0, locals := 0 } : Room).slots) := by
  refine MetFree.of_bodySF (plainFor_of_name pn_5) hisR ?_
  intro p e s m args below meth c s₁ Bd hml0 hP hK
  obtain ⟨rfl, hZ, hh⟩ := hP
  have hx := Bd.exec
  have hby := Bd.bytes
  have hml : c.maxLocals = 2 := hml0
  have hown : s.vm.findClass "com/example/termwell/termwell/core/text/CharClassesPerlPinLaw" = some m.cls := findClass_of_methodNamed Bd.named
  have hnm := (name_of_methodNamed Bd.named Bd.method).1
  have X0 : Stand p l e ({ frames := 0, cells := 0, slots := 0, locals := 0 } : Room) s m #[(.int 1), (.int 10)] below meth c s₁ [] 0 0 := Stand.of_body Bd
  have e0 : s₁.heap = h0 := by rw [← hh, Bd.state]; rfl
  have N0 := Fr.nil n0
  have pre0 : ∀ t, Steps p.tables e below (s₁.setTop (mkF m 0 #[.val (.int 1), .val (.int 10)] [])) t → Steps p.tables e below (s₁.setTop (entryFrame m #[(.int 1), (.int 10)] 2)) t := fun t k => castTop (by first | (simp [entryFrame, mkF, argsToLocals, Value.category]; done) | rfl) k
  obtain ⟨fs, hr, hrun, hended, hW, hsame⟩ := X0.leave (v := some (.int 1)) (fun h => by rw [Bd.returns] at h; cases h)
  refine ⟨_, _, pre0 _ ?_, hrun, hended, _, _, rfl, ?_, ⟨_, rfl⟩, hW, hsame.mono (by decide) (by decide)⟩
  · show Steps p.tables e below (s₁.setTop (mkF m 0 #[.val (.int 1), .val (.int 10)] [])) _
    refine XS.iloadN X0.here hx rfl (hb hby d5_0) rfl ?_
    show Steps p.tables e below (s₁.setTop (mkF m 1 #[.val (.int 1), .val (.int 10)] [(.int 1)])) _
    refine XS.ifYes X0.here hx rfl (pc0 := 1) (pc' := 22) rfl (hb hby d5_1) rfl ((if0 _ _).trans (feq (by decide : ¬ ((1 : Int32) = (0 : Int32)))).2) (by decide) (by decide) ?_
    show Steps p.tables e below (s₁.setTop (mkF m 22 #[.val (.int 1), .val (.int 10)] [])) _
    refine XS.iloadN X0.here hx rfl (hb hby d5_22) rfl ?_
    show Steps p.tables e below (s₁.setTop (mkF m 23 #[.val (.int 1), .val (.int 10)] [(.int 1)])) _
    refine XS.iconst X0.here hx rfl (hb hby d5_23) ?_
    show Steps p.tables e below (s₁.setTop (mkF m 24 #[.val (.int 1), .val (.int 10)] [(.int 1), (.int 1)])) _
    refine XS.icmpNo X0.here hx rfl (hb hby d5_24) rfl (teq (by decide : (1 : Int32) = (1 : Int32))).2 ?_
    show Steps p.tables e below (s₁.setTop (mkF m 27 #[.val (.int 1), .val (.int 10)] [])) _
    refine XS.iloadN X0.here hx rfl (hb hby d5_27) rfl ?_
    show Steps p.tables e below (s₁.setTop (mkF m 28 #[.val (.int 1), .val (.int 10)] [(.int 10)])) _
    refine XS.bipush X0.here hx rfl (hb hby d5_28) ?_
    show Steps p.tables e below (s₁.setTop (mkF m 30 #[.val (.int 1), .val (.int 10)] [(.int 9), (.int 10)])) _
    refine XS.icmpNo X0.here hx rfl (hb hby d5_30) rfl (feq (by decide : ¬ ((10 : Int32) = (9 : Int32)))).1 ?_
    show Steps p.tables e below (s₁.setTop (mkF m 33 #[.val (.int 1), .val (.int 10)] [])) _
    refine XS.iloadN X0.here hx rfl (hb hby d5_33) rfl ?_
    show Steps p.tables e below (s₁.setTop (mkF m 34 #[.val (.int 1), .val (.int 10)] [(.int 10)])) _
    refine XS.bipush X0.here hx rfl (hb hby d5_34) ?_
    show Steps p.tables e below (s₁.setTop (mkF m 36 #[.val (.int 1), .val (.int 10)] [(.int 10), (.int 10)])) _
    refine XS.icmpYes X0.here hx rfl (pc0 := 36) (pc' := 57) rfl (hb hby d5_36) rfl (teq (by decide : (10 : Int32) = (10 : Int32))).1 (by decide) (by decide) ?_
    show Steps p.tables e below (s₁.setTop (mkF m 57 #[.val (.int 1), .val (.int 10)] [])) _
    refine XS.iconst X0.here hx rfl (hb hby d5_57) ?_
    show Steps p.tables e below (s₁.setTop (mkF m 58 #[.val (.int 1), .val (.int 10)] [(.int 1)])) _
    refine XS.goto X0.here hx rfl (pc0 := 58) (pc' := 62) rfl (hb hby d5_58) (by decide) (by decide) ?_
    show Steps p.tables e below (s₁.setTop (mkF m 62 #[.val (.int 1), .val (.int 10)] [(.int 1)])) _
    exact retN X0 hx (t := .boolean) Bd.returns (by simp) (hb hby d5_62) hr
  · show Q5_1_10_all_SPACE Z  h0 n0 _ s₁.heap _
    rw [e0]
    exact ⟨(by rw [hret]), N0, rfl⟩
def Q5_1_11_all_SPACE (Z : State)  (h0 : Heap) (n0 : Nat) (v : Option Value) (h : Heap) (L : List Loc) : Prop := v = some (.int (own_s (11 : Int32))) ∧ Fr n0 L ∧ h = h0
set_option maxRecDepth 65536 in
set_option maxHeartbeats 40000000 in
theorem rm5_1_11_all_SPACE (l : Launch) (Z : State) (a0 : Array Value) (hw : ∀ d ∈ tables_1, d.before a0 Z = true) (ws : List Jvm.Cond)  (h0 : Heap) (n0 : Nat) (Z0 : n0 ≤ h0.size) (hret : (own_s (11 : Int32)) = (0 : Int32)) :
    MetFree l (⟨"com/example/termwell/termwell/core/text/CharClassesPerlPinLaw", "expected", "(II)Z"⟩ : MethodName) (head1 (Jvm.Cond.code (⟨"com/example/termwell/termwell/core/text/CharClassesPerlPinLaw", "expected", "(II)Z"⟩ : MethodName) method_2_code 2 (some .boolean) :: ws) ({ frames := 0, cells := 0, slots := 0, locals := 0 } : Room)) (fun a U => a = #[(.int 1), (.int 11)] ∧ Z.Warmed39 U.vm ∧ U.heap = h0) (fun _ _ _ _ _ => True) (fun _ U o U' => ∃ v L, o = .returned v ∧ Q5_1_11_all_SPACE Z  h0 n0 v U'.heap L ∧ FrameEnd U o U' L ({ frames := 0, cells := 0, slots := 0, locals := 0 } : Room).cells ({ frames := 0, cells := 0, slots := 0, locals := 0 } : Room).slots) := by
  refine MetFree.of_bodySF (plainFor_of_name pn_5) hisR ?_
  intro p e s m args below meth c s₁ Bd hml0 hP hK
  obtain ⟨rfl, hZ, hh⟩ := hP
  have hx := Bd.exec
  have hby := Bd.bytes
  have hml : c.maxLocals = 2 := hml0
  have hown : s.vm.findClass "com/example/termwell/termwell/core/text/CharClassesPerlPinLaw" = some m.cls := findClass_of_methodNamed Bd.named
  have hnm := (name_of_methodNamed Bd.named Bd.method).1
  have X0 : Stand p l e ({ frames := 0, cells := 0, slots := 0, locals := 0 } : Room) s m #[(.int 1), (.int 11)] below meth c s₁ [] 0 0 := Stand.of_body Bd
  have e0 : s₁.heap = h0 := by rw [← hh, Bd.state]; rfl
  have N0 := Fr.nil n0
  have pre0 : ∀ t, Steps p.tables e below (s₁.setTop (mkF m 0 #[.val (.int 1), .val (.int 11)] [])) t → Steps p.tables e below (s₁.setTop (entryFrame m #[(.int 1), (.int 11)] 2)) t := fun t k => castTop (by first | (simp [entryFrame, mkF, argsToLocals, Value.category]; done) | rfl) k
  obtain ⟨fs, hr, hrun, hended, hW, hsame⟩ := X0.leave (v := some (.int 0)) (fun h => by rw [Bd.returns] at h; cases h)
  refine ⟨_, _, pre0 _ ?_, hrun, hended, _, _, rfl, ?_, ⟨_, rfl⟩, hW, hsame.mono (by decide) (by decide)⟩
  · show Steps p.tables e below (s₁.setTop (mkF m 0 #[.val (.int 1), .val (.int 11)] [])) _
    refine XS.iloadN X0.here hx rfl (hb hby d5_0) rfl ?_
    show Steps p.tables e below (s₁.setTop (mkF m 1 #[.val (.int 1), .val (.int 11)] [(.int 1)])) _
    refine XS.ifYes X0.here hx rfl (pc0 := 1) (pc' := 22) rfl (hb hby d5_1) rfl ((if0 _ _).trans (feq (by decide : ¬ ((1 : Int32) = (0 : Int32)))).2) (by decide) (by decide) ?_
    show Steps p.tables e below (s₁.setTop (mkF m 22 #[.val (.int 1), .val (.int 11)] [])) _
    refine XS.iloadN X0.here hx rfl (hb hby d5_22) rfl ?_
    show Steps p.tables e below (s₁.setTop (mkF m 23 #[.val (.int 1), .val (.int 11)] [(.int 1)])) _
    refine XS.iconst X0.here hx rfl (hb hby d5_23) ?_
    show Steps p.tables e below (s₁.setTop (mkF m 24 #[.val (.int 1), .val (.int 11)] [(.int 1), (.int 1)])) _
    refine XS.icmpNo X0.here hx rfl (hb hby d5_24) rfl (teq (by decide : (1 : Int32) = (1 : Int32))).2 ?_
    show Steps p.tables e below (s₁.setTop (mkF m 27 #[.val (.int 1), .val (.int 11)] [])) _
    refine XS.iloadN X0.here hx rfl (hb hby d5_27) rfl ?_
    show Steps p.tables e below (s₁.setTop (mkF m 28 #[.val (.int 1), .val (.int 11)] [(.int 11)])) _
    refine XS.bipush X0.here hx rfl (hb hby d5_28) ?_
    show Steps p.tables e below (s₁.setTop (mkF m 30 #[.val (.int 1), .val (.int 11)] [(.int 9), (.int 11)])) _
    refine XS.icmpNo X0.here hx rfl (hb hby d5_30) rfl (feq (by decide : ¬ ((11 : Int32) = (9 : Int32)))).1 ?_
    show Steps p.tables e below (s₁.setTop (mkF m 33 #[.val (.int 1), .val (.int 11)] [])) _
    refine XS.iloadN X0.here hx rfl (hb hby d5_33) rfl ?_
    show Steps p.tables e below (s₁.setTop (mkF m 34 #[.val (.int 1), .val (.int 11)] [(.int 11)])) _
    refine XS.bipush X0.here hx rfl (hb hby d5_34) ?_
    show Steps p.tables e below (s₁.setTop (mkF m 36 #[.val (.int 1), .val (.int 11)] [(.int 10), (.int 11)])) _
    refine XS.icmpNo X0.here hx rfl (hb hby d5_36) rfl (feq (by decide : ¬ ((11 : Int32) = (10 : Int32)))).1 ?_
    show Steps p.tables e below (s₁.setTop (mkF m 39 #[.val (.int 1), .val (.int 11)] [])) _
    refine XS.iloadN X0.here hx rfl (hb hby d5_39) rfl ?_
    show Steps p.tables e below (s₁.setTop (mkF m 40 #[.val (.int 1), .val (.int 11)] [(.int 11)])) _
    refine XS.bipush X0.here hx rfl (hb hby d5_40) ?_
    show Steps p.tables e below (s₁.setTop (mkF m 42 #[.val (.int 1), .val (.int 11)] [(.int 12), (.int 11)])) _
    refine XS.icmpNo X0.here hx rfl (hb hby d5_42) rfl (feq (by decide : ¬ ((11 : Int32) = (12 : Int32)))).1 ?_
    show Steps p.tables e below (s₁.setTop (mkF m 45 #[.val (.int 1), .val (.int 11)] [])) _
    refine XS.iloadN X0.here hx rfl (hb hby d5_45) rfl ?_
    show Steps p.tables e below (s₁.setTop (mkF m 46 #[.val (.int 1), .val (.int 11)] [(.int 11)])) _
    refine XS.bipush X0.here hx rfl (hb hby d5_46) ?_
    show Steps p.tables e below (s₁.setTop (mkF m 48 #[.val (.int 1), .val (.int 11)] [(.int 13), (.int 11)])) _
    refine XS.icmpNo X0.here hx rfl (hb hby d5_48) rfl (feq (by decide : ¬ ((11 : Int32) = (13 : Int32)))).1 ?_
    show Steps p.tables e below (s₁.setTop (mkF m 51 #[.val (.int 1), .val (.int 11)] [])) _
    refine XS.iloadN X0.here hx rfl (hb hby d5_51) rfl ?_
    show Steps p.tables e below (s₁.setTop (mkF m 52 #[.val (.int 1), .val (.int 11)] [(.int 11)])) _
    refine XS.bipush X0.here hx rfl (hb hby d5_52) ?_
    show Steps p.tables e below (s₁.setTop (mkF m 54 #[.val (.int 1), .val (.int 11)] [(.int 32), (.int 11)])) _
    refine XS.icmpYes X0.here hx rfl (pc0 := 54) (pc' := 61) rfl (hb hby d5_54) rfl (feq (by decide : ¬ ((11 : Int32) = (32 : Int32)))).2 (by decide) (by decide) ?_
    show Steps p.tables e below (s₁.setTop (mkF m 61 #[.val (.int 1), .val (.int 11)] [])) _
    refine XS.iconst X0.here hx rfl (hb hby d5_61) ?_
    show Steps p.tables e below (s₁.setTop (mkF m 62 #[.val (.int 1), .val (.int 11)] [(.int 0)])) _
    exact retN X0 hx (t := .boolean) Bd.returns (by simp) (hb hby d5_62) hr
  · show Q5_1_11_all_SPACE Z  h0 n0 _ s₁.heap _
    rw [e0]
    exact ⟨(by rw [hret]), N0, rfl⟩
def Q5_1_12_all_SPACE (Z : State)  (h0 : Heap) (n0 : Nat) (v : Option Value) (h : Heap) (L : List Loc) : Prop := v = some (.int (own_s (12 : Int32))) ∧ Fr n0 L ∧ h = h0
set_option maxRecDepth 65536 in
set_option maxHeartbeats 40000000 in
theorem rm5_1_12_all_SPACE (l : Launch) (Z : State) (a0 : Array Value) (hw : ∀ d ∈ tables_1, d.before a0 Z = true) (ws : List Jvm.Cond)  (h0 : Heap) (n0 : Nat) (Z0 : n0 ≤ h0.size) (hret : (own_s (12 : Int32)) = (1 : Int32)) :
    MetFree l (⟨"com/example/termwell/termwell/core/text/CharClassesPerlPinLaw", "expected", "(II)Z"⟩ : MethodName) (head1 (Jvm.Cond.code (⟨"com/example/termwell/termwell/core/text/CharClassesPerlPinLaw", "expected", "(II)Z"⟩ : MethodName) method_2_code 2 (some .boolean) :: ws) ({ frames := 0, cells := 0, slots := 0, locals := 0 } : Room)) (fun a U => a = #[(.int 1), (.int 12)] ∧ Z.Warmed39 U.vm ∧ U.heap = h0) (fun _ _ _ _ _ => True) (fun _ U o U' => ∃ v L, o = .returned v ∧ Q5_1_12_all_SPACE Z  h0 n0 v U'.heap L ∧ FrameEnd U o U' L ({ frames := 0, cells := 0, slots := 0, locals := 0 } : Room).cells ({ frames := 0, cells := 0, slots := 0, locals := 0 } : Room).slots) := by
  refine MetFree.of_bodySF (plainFor_of_name pn_5) hisR ?_
  intro p e s m args below meth c s₁ Bd hml0 hP hK
  obtain ⟨rfl, hZ, hh⟩ := hP
  have hx := Bd.exec
  have hby := Bd.bytes
  have hml : c.maxLocals = 2 := hml0
  have hown : s.vm.findClass "com/example/termwell/termwell/core/text/CharClassesPerlPinLaw" = some m.cls := findClass_of_methodNamed Bd.named
  have hnm := (name_of_methodNamed Bd.named Bd.method).1
  have X0 : Stand p l e ({ frames := 0, cells := 0, slots := 0, locals := 0 } : Room) s m #[(.int 1), (.int 12)] below meth c s₁ [] 0 0 := Stand.of_body Bd
  have e0 : s₁.heap = h0 := by rw [← hh, Bd.state]; rfl
  have N0 := Fr.nil n0
  have pre0 : ∀ t, Steps p.tables e below (s₁.setTop (mkF m 0 #[.val (.int 1), .val (.int 12)] [])) t → Steps p.tables e below (s₁.setTop (entryFrame m #[(.int 1), (.int 12)] 2)) t := fun t k => castTop (by first | (simp [entryFrame, mkF, argsToLocals, Value.category]; done) | rfl) k
  obtain ⟨fs, hr, hrun, hended, hW, hsame⟩ := X0.leave (v := some (.int 1)) (fun h => by rw [Bd.returns] at h; cases h)
  refine ⟨_, _, pre0 _ ?_, hrun, hended, _, _, rfl, ?_, ⟨_, rfl⟩, hW, hsame.mono (by decide) (by decide)⟩
  · show Steps p.tables e below (s₁.setTop (mkF m 0 #[.val (.int 1), .val (.int 12)] [])) _
    refine XS.iloadN X0.here hx rfl (hb hby d5_0) rfl ?_
    show Steps p.tables e below (s₁.setTop (mkF m 1 #[.val (.int 1), .val (.int 12)] [(.int 1)])) _
    refine XS.ifYes X0.here hx rfl (pc0 := 1) (pc' := 22) rfl (hb hby d5_1) rfl ((if0 _ _).trans (feq (by decide : ¬ ((1 : Int32) = (0 : Int32)))).2) (by decide) (by decide) ?_
    show Steps p.tables e below (s₁.setTop (mkF m 22 #[.val (.int 1), .val (.int 12)] [])) _
    refine XS.iloadN X0.here hx rfl (hb hby d5_22) rfl ?_
    show Steps p.tables e below (s₁.setTop (mkF m 23 #[.val (.int 1), .val (.int 12)] [(.int 1)])) _
    refine XS.iconst X0.here hx rfl (hb hby d5_23) ?_
    show Steps p.tables e below (s₁.setTop (mkF m 24 #[.val (.int 1), .val (.int 12)] [(.int 1), (.int 1)])) _
    refine XS.icmpNo X0.here hx rfl (hb hby d5_24) rfl (teq (by decide : (1 : Int32) = (1 : Int32))).2 ?_
    show Steps p.tables e below (s₁.setTop (mkF m 27 #[.val (.int 1), .val (.int 12)] [])) _
    refine XS.iloadN X0.here hx rfl (hb hby d5_27) rfl ?_
    show Steps p.tables e below (s₁.setTop (mkF m 28 #[.val (.int 1), .val (.int 12)] [(.int 12)])) _
    refine XS.bipush X0.here hx rfl (hb hby d5_28) ?_
    show Steps p.tables e below (s₁.setTop (mkF m 30 #[.val (.int 1), .val (.int 12)] [(.int 9), (.int 12)])) _
    refine XS.icmpNo X0.here hx rfl (hb hby d5_30) rfl (feq (by decide : ¬ ((12 : Int32) = (9 : Int32)))).1 ?_
    show Steps p.tables e below (s₁.setTop (mkF m 33 #[.val (.int 1), .val (.int 12)] [])) _
    refine XS.iloadN X0.here hx rfl (hb hby d5_33) rfl ?_
    show Steps p.tables e below (s₁.setTop (mkF m 34 #[.val (.int 1), .val (.int 12)] [(.int 12)])) _
    refine XS.bipush X0.here hx rfl (hb hby d5_34) ?_
    show Steps p.tables e below (s₁.setTop (mkF m 36 #[.val (.int 1), .val (.int 12)] [(.int 10), (.int 12)])) _
    refine XS.icmpNo X0.here hx rfl (hb hby d5_36) rfl (feq (by decide : ¬ ((12 : Int32) = (10 : Int32)))).1 ?_
    show Steps p.tables e below (s₁.setTop (mkF m 39 #[.val (.int 1), .val (.int 12)] [])) _
    refine XS.iloadN X0.here hx rfl (hb hby d5_39) rfl ?_
    show Steps p.tables e below (s₁.setTop (mkF m 40 #[.val (.int 1), .val (.int 12)] [(.int 12)])) _
    refine XS.bipush X0.here hx rfl (hb hby d5_40) ?_
    show Steps p.tables e below (s₁.setTop (mkF m 42 #[.val (.int 1), .val (.int 12)] [(.int 12), (.int 12)])) _
    refine XS.icmpYes X0.here hx rfl (pc0 := 42) (pc' := 57) rfl (hb hby d5_42) rfl (teq (by decide : (12 : Int32) = (12 : Int32))).1 (by decide) (by decide) ?_
    show Steps p.tables e below (s₁.setTop (mkF m 57 #[.val (.int 1), .val (.int 12)] [])) _
    refine XS.iconst X0.here hx rfl (hb hby d5_57) ?_
    show Steps p.tables e below (s₁.setTop (mkF m 58 #[.val (.int 1), .val (.int 12)] [(.int 1)])) _
    refine XS.goto X0.here hx rfl (pc0 := 58) (pc' := 62) rfl (hb hby d5_58) (by decide) (by decide) ?_
    show Steps p.tables e below (s₁.setTop (mkF m 62 #[.val (.int 1), .val (.int 12)] [(.int 1)])) _
    exact retN X0 hx (t := .boolean) Bd.returns (by simp) (hb hby d5_62) hr
  · show Q5_1_12_all_SPACE Z  h0 n0 _ s₁.heap _
    rw [e0]
    exact ⟨(by rw [hret]), N0, rfl⟩
def Q5_1_13_all_SPACE (Z : State)  (h0 : Heap) (n0 : Nat) (v : Option Value) (h : Heap) (L : List Loc) : Prop := v = some (.int (own_s (13 : Int32))) ∧ Fr n0 L ∧ h = h0
set_option maxRecDepth 65536 in
set_option maxHeartbeats 40000000 in
theorem rm5_1_13_all_SPACE (l : Launch) (Z : State) (a0 : Array Value) (hw : ∀ d ∈ tables_1, d.before a0 Z = true) (ws : List Jvm.Cond)  (h0 : Heap) (n0 : Nat) (Z0 : n0 ≤ h0.size) (hret : (own_s (13 : Int32)) = (1 : Int32)) :
    MetFree l (⟨"com/example/termwell/termwell/core/text/CharClassesPerlPinLaw", "expected", "(II)Z"⟩ : MethodName) (head1 (Jvm.Cond.code (⟨"com/example/termwell/termwell/core/text/CharClassesPerlPinLaw", "expected", "(II)Z"⟩ : MethodName) method_2_code 2 (some .boolean) :: ws) ({ frames := 0, cells := 0, slots := 0, locals := 0 } : Room)) (fun a U => a = #[(.int 1), (.int 13)] ∧ Z.Warmed39 U.vm ∧ U.heap = h0) (fun _ _ _ _ _ => True) (fun _ U o U' => ∃ v L, o = .returned v ∧ Q5_1_13_all_SPACE Z  h0 n0 v U'.heap L ∧ FrameEnd U o U' L ({ frames := 0, cells := 0, slots := 0, locals := 0 } : Room).cells ({ frames := 0, cells := 0, slots := 0, locals := 0 } : Room).slots) := by
  refine MetFree.of_bodySF (plainFor_of_name pn_5) hisR ?_
  intro p e s m args below meth c s₁ Bd hml0 hP hK
  obtain ⟨rfl, hZ, hh⟩ := hP
  have hx := Bd.exec
  have hby := Bd.bytes
  have hml : c.maxLocals = 2 := hml0
  have hown : s.vm.findClass "com/example/termwell/termwell/core/text/CharClassesPerlPinLaw" = some m.cls := findClass_of_methodNamed Bd.named
  have hnm := (name_of_methodNamed Bd.named Bd.method).1
  have X0 : Stand p l e ({ frames := 0, cells := 0, slots := 0, locals := 0 } : Room) s m #[(.int 1), (.int 13)] below meth c s₁ [] 0 0 := Stand.of_body Bd
  have e0 : s₁.heap = h0 := by rw [← hh, Bd.state]; rfl
  have N0 := Fr.nil n0
  have pre0 : ∀ t, Steps p.tables e below (s₁.setTop (mkF m 0 #[.val (.int 1), .val (.int 13)] [])) t → Steps p.tables e below (s₁.setTop (entryFrame m #[(.int 1), (.int 13)] 2)) t := fun t k => castTop (by first | (simp [entryFrame, mkF, argsToLocals, Value.category]; done) | rfl) k
  obtain ⟨fs, hr, hrun, hended, hW, hsame⟩ := X0.leave (v := some (.int 1)) (fun h => by rw [Bd.returns] at h; cases h)
  refine ⟨_, _, pre0 _ ?_, hrun, hended, _, _, rfl, ?_, ⟨_, rfl⟩, hW, hsame.mono (by decide) (by decide)⟩
  · show Steps p.tables e below (s₁.setTop (mkF m 0 #[.val (.int 1), .val (.int 13)] [])) _
    refine XS.iloadN X0.here hx rfl (hb hby d5_0) rfl ?_
    show Steps p.tables e below (s₁.setTop (mkF m 1 #[.val (.int 1), .val (.int 13)] [(.int 1)])) _
    refine XS.ifYes X0.here hx rfl (pc0 := 1) (pc' := 22) rfl (hb hby d5_1) rfl ((if0 _ _).trans (feq (by decide : ¬ ((1 : Int32) = (0 : Int32)))).2) (by decide) (by decide) ?_
    show Steps p.tables e below (s₁.setTop (mkF m 22 #[.val (.int 1), .val (.int 13)] [])) _
    refine XS.iloadN X0.here hx rfl (hb hby d5_22) rfl ?_
    show Steps p.tables e below (s₁.setTop (mkF m 23 #[.val (.int 1), .val (.int 13)] [(.int 1)])) _
    refine XS.iconst X0.here hx rfl (hb hby d5_23) ?_
    show Steps p.tables e below (s₁.setTop (mkF m 24 #[.val (.int 1), .val (.int 13)] [(.int 1), (.int 1)])) _
    refine XS.icmpNo X0.here hx rfl (hb hby d5_24) rfl (teq (by decide : (1 : Int32) = (1 : Int32))).2 ?_
    show Steps p.tables e below (s₁.setTop (mkF m 27 #[.val (.int 1), .val (.int 13)] [])) _
    refine XS.iloadN X0.here hx rfl (hb hby d5_27) rfl ?_
    show Steps p.tables e below (s₁.setTop (mkF m 28 #[.val (.int 1), .val (.int 13)] [(.int 13)])) _
    refine XS.bipush X0.here hx rfl (hb hby d5_28) ?_
    show Steps p.tables e below (s₁.setTop (mkF m 30 #[.val (.int 1), .val (.int 13)] [(.int 9), (.int 13)])) _
    refine XS.icmpNo X0.here hx rfl (hb hby d5_30) rfl (feq (by decide : ¬ ((13 : Int32) = (9 : Int32)))).1 ?_
    show Steps p.tables e below (s₁.setTop (mkF m 33 #[.val (.int 1), .val (.int 13)] [])) _
    refine XS.iloadN X0.here hx rfl (hb hby d5_33) rfl ?_
    show Steps p.tables e below (s₁.setTop (mkF m 34 #[.val (.int 1), .val (.int 13)] [(.int 13)])) _
    refine XS.bipush X0.here hx rfl (hb hby d5_34) ?_
    show Steps p.tables e below (s₁.setTop (mkF m 36 #[.val (.int 1), .val (.int 13)] [(.int 10), (.int 13)])) _
    refine XS.icmpNo X0.here hx rfl (hb hby d5_36) rfl (feq (by decide : ¬ ((13 : Int32) = (10 : Int32)))).1 ?_
    show Steps p.tables e below (s₁.setTop (mkF m 39 #[.val (.int 1), .val (.int 13)] [])) _
    refine XS.iloadN X0.here hx rfl (hb hby d5_39) rfl ?_
    show Steps p.tables e below (s₁.setTop (mkF m 40 #[.val (.int 1), .val (.int 13)] [(.int 13)])) _
    refine XS.bipush X0.here hx rfl (hb hby d5_40) ?_
    show Steps p.tables e below (s₁.setTop (mkF m 42 #[.val (.int 1), .val (.int 13)] [(.int 12), (.int 13)])) _
    refine XS.icmpNo X0.here hx rfl (hb hby d5_42) rfl (feq (by decide : ¬ ((13 : Int32) = (12 : Int32)))).1 ?_
    show Steps p.tables e below (s₁.setTop (mkF m 45 #[.val (.int 1), .val (.int 13)] [])) _
    refine XS.iloadN X0.here hx rfl (hb hby d5_45) rfl ?_
    show Steps p.tables e below (s₁.setTop (mkF m 46 #[.val (.int 1), .val (.int 13)] [(.int 13)])) _
    refine XS.bipush X0.here hx rfl (hb hby d5_46) ?_
    show Steps p.tables e below (s₁.setTop (mkF m 48 #[.val (.int 1), .val (.int 13)] [(.int 13), (.int 13)])) _
    refine XS.icmpYes X0.here hx rfl (pc0 := 48) (pc' := 57) rfl (hb hby d5_48) rfl (teq (by decide : (13 : Int32) = (13 : Int32))).1 (by decide) (by decide) ?_
    show Steps p.tables e below (s₁.setTop (mkF m 57 #[.val (.int 1), .val (.int 13)] [])) _
    refine XS.iconst X0.here hx rfl (hb hby d5_57) ?_
    show Steps p.tables e below (s₁.setTop (mkF m 58 #[.val (.int 1), .val (.int 13)] [(.int 1)])) _
    refine XS.goto X0.here hx rfl (pc0 := 58) (pc' := 62) rfl (hb hby d5_58) (by decide) (by decide) ?_
    show Steps p.tables e below (s₁.setTop (mkF m 62 #[.val (.int 1), .val (.int 13)] [(.int 1)])) _
    exact retN X0 hx (t := .boolean) Bd.returns (by simp) (hb hby d5_62) hr
  · show Q5_1_13_all_SPACE Z  h0 n0 _ s₁.heap _
    rw [e0]
    exact ⟨(by rw [hret]), N0, rfl⟩
def Q5_1_x_13_32_all_SPACE (Z : State) (x : Int32) (h0 : Heap) (n0 : Nat) (v : Option Value) (h : Heap) (L : List Loc) : Prop := v = some (.int (own_s x)) ∧ Fr n0 L ∧ h = h0
set_option maxRecDepth 65536 in
set_option maxHeartbeats 40000000 in
theorem rm5_1_x_13_32_all_SPACE (l : Launch) (Z : State) (a0 : Array Value) (hw : ∀ d ∈ tables_1, d.before a0 Z = true) (ws : List Jvm.Cond) (x : Int32) (h0 : Heap) (n0 : Nat) (Z0 : n0 ≤ h0.size) (hlo_x : (13 : Int32) < x) (hhi_x : x < (32 : Int32)) (hret : (own_s x) = (0 : Int32)) :
    MetFree l (⟨"com/example/termwell/termwell/core/text/CharClassesPerlPinLaw", "expected", "(II)Z"⟩ : MethodName) (head1 (Jvm.Cond.code (⟨"com/example/termwell/termwell/core/text/CharClassesPerlPinLaw", "expected", "(II)Z"⟩ : MethodName) method_2_code 2 (some .boolean) :: ws) ({ frames := 0, cells := 0, slots := 0, locals := 0 } : Room)) (fun a U => a = #[(.int 1), (.int x)] ∧ Z.Warmed39 U.vm ∧ U.heap = h0) (fun _ _ _ _ _ => True) (fun _ U o U' => ∃ v L, o = .returned v ∧ Q5_1_x_13_32_all_SPACE Z x h0 n0 v U'.heap L ∧ FrameEnd U o U' L ({ frames := 0, cells := 0, slots := 0, locals := 0 } : Room).cells ({ frames := 0, cells := 0, slots := 0, locals := 0 } : Room).slots) := by
  refine MetFree.of_bodySF (plainFor_of_name pn_5) hisR ?_
  intro p e s m args below meth c s₁ Bd hml0 hP hK
  obtain ⟨rfl, hZ, hh⟩ := hP
  have hx := Bd.exec
  have hby := Bd.bytes
  have hml : c.maxLocals = 2 := hml0
  have hown : s.vm.findClass "com/example/termwell/termwell/core/text/CharClassesPerlPinLaw" = some m.cls := findClass_of_methodNamed Bd.named
  have hnm := (name_of_methodNamed Bd.named Bd.method).1
  have X0 : Stand p l e ({ frames := 0, cells := 0, slots := 0, locals := 0 } : Room) s m #[(.int 1), (.int x)] below meth c s₁ [] 0 0 := Stand.of_body Bd
  have e0 : s₁.heap = h0 := by rw [← hh, Bd.state]; rfl
  have N0 := Fr.nil n0
  have pre0 : ∀ t, Steps p.tables e below (s₁.setTop (mkF m 0 #[.val (.int 1), .val (.int x)] [])) t → Steps p.tables e below (s₁.setTop (entryFrame m #[(.int 1), (.int x)] 2)) t := fun t k => castTop (by first | (simp [entryFrame, mkF, argsToLocals, Value.category]; done) | rfl) k
  obtain ⟨fs, hr, hrun, hended, hW, hsame⟩ := X0.leave (v := some (.int 0)) (fun h => by rw [Bd.returns] at h; cases h)
  refine ⟨_, _, pre0 _ ?_, hrun, hended, _, _, rfl, ?_, ⟨_, rfl⟩, hW, hsame.mono (by decide) (by decide)⟩
  · show Steps p.tables e below (s₁.setTop (mkF m 0 #[.val (.int 1), .val (.int x)] [])) _
    refine XS.iloadN X0.here hx rfl (hb hby d5_0) rfl ?_
    show Steps p.tables e below (s₁.setTop (mkF m 1 #[.val (.int 1), .val (.int x)] [(.int 1)])) _
    refine XS.ifYes X0.here hx rfl (pc0 := 1) (pc' := 22) rfl (hb hby d5_1) rfl ((if0 _ _).trans (feq (by decide : ¬ ((1 : Int32) = (0 : Int32)))).2) (by decide) (by decide) ?_
    show Steps p.tables e below (s₁.setTop (mkF m 22 #[.val (.int 1), .val (.int x)] [])) _
    refine XS.iloadN X0.here hx rfl (hb hby d5_22) rfl ?_
    show Steps p.tables e below (s₁.setTop (mkF m 23 #[.val (.int 1), .val (.int x)] [(.int 1)])) _
    refine XS.iconst X0.here hx rfl (hb hby d5_23) ?_
    show Steps p.tables e below (s₁.setTop (mkF m 24 #[.val (.int 1), .val (.int x)] [(.int 1), (.int 1)])) _
    refine XS.icmpNo X0.here hx rfl (hb hby d5_24) rfl (teq (by decide : (1 : Int32) = (1 : Int32))).2 ?_
    show Steps p.tables e below (s₁.setTop (mkF m 27 #[.val (.int 1), .val (.int x)] [])) _
    refine XS.iloadN X0.here hx rfl (hb hby d5_27) rfl ?_
    show Steps p.tables e below (s₁.setTop (mkF m 28 #[.val (.int 1), .val (.int x)] [(.int x)])) _
    refine XS.bipush X0.here hx rfl (hb hby d5_28) ?_
    show Steps p.tables e below (s₁.setTop (mkF m 30 #[.val (.int 1), .val (.int x)] [(.int 9), (.int x)])) _
    refine XS.icmpNo X0.here hx rfl (hb hby d5_30) rfl (feq (own_nelo hlo_x (by decide) : ¬ (x = (9 : Int32)))).1 ?_
    show Steps p.tables e below (s₁.setTop (mkF m 33 #[.val (.int 1), .val (.int x)] [])) _
    refine XS.iloadN X0.here hx rfl (hb hby d5_33) rfl ?_
    show Steps p.tables e below (s₁.setTop (mkF m 34 #[.val (.int 1), .val (.int x)] [(.int x)])) _
    refine XS.bipush X0.here hx rfl (hb hby d5_34) ?_
    show Steps p.tables e below (s₁.setTop (mkF m 36 #[.val (.int 1), .val (.int x)] [(.int 10), (.int x)])) _
    refine XS.icmpNo X0.here hx rfl (hb hby d5_36) rfl (feq (own_nelo hlo_x (by decide) : ¬ (x = (10 : Int32)))).1 ?_
    show Steps p.tables e below (s₁.setTop (mkF m 39 #[.val (.int 1), .val (.int x)] [])) _
    refine XS.iloadN X0.here hx rfl (hb hby d5_39) rfl ?_
    show Steps p.tables e below (s₁.setTop (mkF m 40 #[.val (.int 1), .val (.int x)] [(.int x)])) _
    refine XS.bipush X0.here hx rfl (hb hby d5_40) ?_
    show Steps p.tables e below (s₁.setTop (mkF m 42 #[.val (.int 1), .val (.int x)] [(.int 12), (.int x)])) _
    refine XS.icmpNo X0.here hx rfl (hb hby d5_42) rfl (feq (own_nelo hlo_x (by decide) : ¬ (x = (12 : Int32)))).1 ?_
    show Steps p.tables e below (s₁.setTop (mkF m 45 #[.val (.int 1), .val (.int x)] [])) _
    refine XS.iloadN X0.here hx rfl (hb hby d5_45) rfl ?_
    show Steps p.tables e below (s₁.setTop (mkF m 46 #[.val (.int 1), .val (.int x)] [(.int x)])) _
    refine XS.bipush X0.here hx rfl (hb hby d5_46) ?_
    show Steps p.tables e below (s₁.setTop (mkF m 48 #[.val (.int 1), .val (.int x)] [(.int 13), (.int x)])) _
    refine XS.icmpNo X0.here hx rfl (hb hby d5_48) rfl (feq (own_nelo hlo_x (by decide) : ¬ (x = (13 : Int32)))).1 ?_
    show Steps p.tables e below (s₁.setTop (mkF m 51 #[.val (.int 1), .val (.int x)] [])) _
    refine XS.iloadN X0.here hx rfl (hb hby d5_51) rfl ?_
    show Steps p.tables e below (s₁.setTop (mkF m 52 #[.val (.int 1), .val (.int x)] [(.int x)])) _
    refine XS.bipush X0.here hx rfl (hb hby d5_52) ?_
    show Steps p.tables e below (s₁.setTop (mkF m 54 #[.val (.int 1), .val (.int x)] [(.int 32), (.int x)])) _
    refine XS.icmpYes X0.here hx rfl (pc0 := 54) (pc' := 61) rfl (hb hby d5_54) rfl (feq (own_nehi hhi_x (by decide) : ¬ (x = (32 : Int32)))).2 (by decide) (by decide) ?_
    show Steps p.tables e below (s₁.setTop (mkF m 61 #[.val (.int 1), .val (.int x)] [])) _
    refine XS.iconst X0.here hx rfl (hb hby d5_61) ?_
    show Steps p.tables e below (s₁.setTop (mkF m 62 #[.val (.int 1), .val (.int x)] [(.int 0)])) _
    exact retN X0 hx (t := .boolean) Bd.returns (by simp) (hb hby d5_62) hr
  · show Q5_1_x_13_32_all_SPACE Z x h0 n0 _ s₁.heap _
    rw [e0]
    exact ⟨(by rw [hret]), N0, rfl⟩
def Q5_1_32_all_SPACE (Z : State)  (h0 : Heap) (n0 : Nat) (v : Option Value) (h : Heap) (L : List Loc) : Prop := v = some (.int (own_s (32 : Int32))) ∧ Fr n0 L ∧ h = h0
set_option maxRecDepth 65536 in
set_option maxHeartbeats 40000000 in
theorem rm5_1_32_all_SPACE (l : Launch) (Z : State) (a0 : Array Value) (hw : ∀ d ∈ tables_1, d.before a0 Z = true) (ws : List Jvm.Cond)  (h0 : Heap) (n0 : Nat) (Z0 : n0 ≤ h0.size) (hret : (own_s (32 : Int32)) = (1 : Int32)) :
    MetFree l (⟨"com/example/termwell/termwell/core/text/CharClassesPerlPinLaw", "expected", "(II)Z"⟩ : MethodName) (head1 (Jvm.Cond.code (⟨"com/example/termwell/termwell/core/text/CharClassesPerlPinLaw", "expected", "(II)Z"⟩ : MethodName) method_2_code 2 (some .boolean) :: ws) ({ frames := 0, cells := 0, slots := 0, locals := 0 } : Room)) (fun a U => a = #[(.int 1), (.int 32)] ∧ Z.Warmed39 U.vm ∧ U.heap = h0) (fun _ _ _ _ _ => True) (fun _ U o U' => ∃ v L, o = .returned v ∧ Q5_1_32_all_SPACE Z  h0 n0 v U'.heap L ∧ FrameEnd U o U' L ({ frames := 0, cells := 0, slots := 0, locals := 0 } : Room).cells ({ frames := 0, cells := 0, slots := 0, locals := 0 } : Room).slots) := by
  refine MetFree.of_bodySF (plainFor_of_name pn_5) hisR ?_
  intro p e s m args below meth c s₁ Bd hml0 hP hK
  obtain ⟨rfl, hZ, hh⟩ := hP
  have hx := Bd.exec
  have hby := Bd.bytes
  have hml : c.maxLocals = 2 := hml0
  have hown : s.vm.findClass "com/example/termwell/termwell/core/text/CharClassesPerlPinLaw" = some m.cls := findClass_of_methodNamed Bd.named
  have hnm := (name_of_methodNamed Bd.named Bd.method).1
  have X0 : Stand p l e ({ frames := 0, cells := 0, slots := 0, locals := 0 } : Room) s m #[(.int 1), (.int 32)] below meth c s₁ [] 0 0 := Stand.of_body Bd
  have e0 : s₁.heap = h0 := by rw [← hh, Bd.state]; rfl
  have N0 := Fr.nil n0
  have pre0 : ∀ t, Steps p.tables e below (s₁.setTop (mkF m 0 #[.val (.int 1), .val (.int 32)] [])) t → Steps p.tables e below (s₁.setTop (entryFrame m #[(.int 1), (.int 32)] 2)) t := fun t k => castTop (by first | (simp [entryFrame, mkF, argsToLocals, Value.category]; done) | rfl) k
  obtain ⟨fs, hr, hrun, hended, hW, hsame⟩ := X0.leave (v := some (.int 1)) (fun h => by rw [Bd.returns] at h; cases h)
  refine ⟨_, _, pre0 _ ?_, hrun, hended, _, _, rfl, ?_, ⟨_, rfl⟩, hW, hsame.mono (by decide) (by decide)⟩
  · show Steps p.tables e below (s₁.setTop (mkF m 0 #[.val (.int 1), .val (.int 32)] [])) _
    refine XS.iloadN X0.here hx rfl (hb hby d5_0) rfl ?_
    show Steps p.tables e below (s₁.setTop (mkF m 1 #[.val (.int 1), .val (.int 32)] [(.int 1)])) _
    refine XS.ifYes X0.here hx rfl (pc0 := 1) (pc' := 22) rfl (hb hby d5_1) rfl ((if0 _ _).trans (feq (by decide : ¬ ((1 : Int32) = (0 : Int32)))).2) (by decide) (by decide) ?_
    show Steps p.tables e below (s₁.setTop (mkF m 22 #[.val (.int 1), .val (.int 32)] [])) _
    refine XS.iloadN X0.here hx rfl (hb hby d5_22) rfl ?_
    show Steps p.tables e below (s₁.setTop (mkF m 23 #[.val (.int 1), .val (.int 32)] [(.int 1)])) _
    refine XS.iconst X0.here hx rfl (hb hby d5_23) ?_
    show Steps p.tables e below (s₁.setTop (mkF m 24 #[.val (.int 1), .val (.int 32)] [(.int 1), (.int 1)])) _
    refine XS.icmpNo X0.here hx rfl (hb hby d5_24) rfl (teq (by decide : (1 : Int32) = (1 : Int32))).2 ?_
    show Steps p.tables e below (s₁.setTop (mkF m 27 #[.val (.int 1), .val (.int 32)] [])) _
    refine XS.iloadN X0.here hx rfl (hb hby d5_27) rfl ?_
    show Steps p.tables e below (s₁.setTop (mkF m 28 #[.val (.int 1), .val (.int 32)] [(.int 32)])) _
    refine XS.bipush X0.here hx rfl (hb hby d5_28) ?_
    show Steps p.tables e below (s₁.setTop (mkF m 30 #[.val (.int 1), .val (.int 32)] [(.int 9), (.int 32)])) _
    refine XS.icmpNo X0.here hx rfl (hb hby d5_30) rfl (feq (by decide : ¬ ((32 : Int32) = (9 : Int32)))).1 ?_
    show Steps p.tables e below (s₁.setTop (mkF m 33 #[.val (.int 1), .val (.int 32)] [])) _
    refine XS.iloadN X0.here hx rfl (hb hby d5_33) rfl ?_
    show Steps p.tables e below (s₁.setTop (mkF m 34 #[.val (.int 1), .val (.int 32)] [(.int 32)])) _
    refine XS.bipush X0.here hx rfl (hb hby d5_34) ?_
    show Steps p.tables e below (s₁.setTop (mkF m 36 #[.val (.int 1), .val (.int 32)] [(.int 10), (.int 32)])) _
    refine XS.icmpNo X0.here hx rfl (hb hby d5_36) rfl (feq (by decide : ¬ ((32 : Int32) = (10 : Int32)))).1 ?_
    show Steps p.tables e below (s₁.setTop (mkF m 39 #[.val (.int 1), .val (.int 32)] [])) _
    refine XS.iloadN X0.here hx rfl (hb hby d5_39) rfl ?_
    show Steps p.tables e below (s₁.setTop (mkF m 40 #[.val (.int 1), .val (.int 32)] [(.int 32)])) _
    refine XS.bipush X0.here hx rfl (hb hby d5_40) ?_
    show Steps p.tables e below (s₁.setTop (mkF m 42 #[.val (.int 1), .val (.int 32)] [(.int 12), (.int 32)])) _
    refine XS.icmpNo X0.here hx rfl (hb hby d5_42) rfl (feq (by decide : ¬ ((32 : Int32) = (12 : Int32)))).1 ?_
    show Steps p.tables e below (s₁.setTop (mkF m 45 #[.val (.int 1), .val (.int 32)] [])) _
    refine XS.iloadN X0.here hx rfl (hb hby d5_45) rfl ?_
    show Steps p.tables e below (s₁.setTop (mkF m 46 #[.val (.int 1), .val (.int 32)] [(.int 32)])) _
    refine XS.bipush X0.here hx rfl (hb hby d5_46) ?_
    show Steps p.tables e below (s₁.setTop (mkF m 48 #[.val (.int 1), .val (.int 32)] [(.int 13), (.int 32)])) _
    refine XS.icmpNo X0.here hx rfl (hb hby d5_48) rfl (feq (by decide : ¬ ((32 : Int32) = (13 : Int32)))).1 ?_
    show Steps p.tables e below (s₁.setTop (mkF m 51 #[.val (.int 1), .val (.int 32)] [])) _
    refine XS.iloadN X0.here hx rfl (hb hby d5_51) rfl ?_
    show Steps p.tables e below (s₁.setTop (mkF m 52 #[.val (.int 1), .val (.int 32)] [(.int 32)])) _
    refine XS.bipush X0.here hx rfl (hb hby d5_52) ?_
    show Steps p.tables e below (s₁.setTop (mkF m 54 #[.val (.int 1), .val (.int 32)] [(.int 32), (.int 32)])) _
    refine XS.icmpNo X0.here hx rfl (hb hby d5_54) rfl (teq (by decide : (32 : Int32) = (32 : Int32))).2 ?_
    show Steps p.tables e below (s₁.setTop (mkF m 57 #[.val (.int 1), .val (.int 32)] [])) _
    refine XS.iconst X0.here hx rfl (hb hby d5_57) ?_
    show Steps p.tables e below (s₁.setTop (mkF m 58 #[.val (.int 1), .val (.int 32)] [(.int 1)])) _
    refine XS.goto X0.here hx rfl (pc0 := 58) (pc' := 62) rfl (hb hby d5_58) (by decide) (by decide) ?_
    show Steps p.tables e below (s₁.setTop (mkF m 62 #[.val (.int 1), .val (.int 32)] [(.int 1)])) _
    exact retN X0 hx (t := .boolean) Bd.returns (by simp) (hb hby d5_62) hr
  · show Q5_1_32_all_SPACE Z  h0 n0 _ s₁.heap _
    rw [e0]
    exact ⟨(by rw [hret]), N0, rfl⟩
def Q5_1_x_32_None_all_SPACE (Z : State) (x : Int32) (h0 : Heap) (n0 : Nat) (v : Option Value) (h : Heap) (L : List Loc) : Prop := v = some (.int (own_s x)) ∧ Fr n0 L ∧ h = h0
set_option maxRecDepth 65536 in
set_option maxHeartbeats 40000000 in
theorem rm5_1_x_32_None_all_SPACE (l : Launch) (Z : State) (a0 : Array Value) (hw : ∀ d ∈ tables_1, d.before a0 Z = true) (ws : List Jvm.Cond) (x : Int32) (h0 : Heap) (n0 : Nat) (Z0 : n0 ≤ h0.size) (hlo_x : (32 : Int32) < x) (hret : (own_s x) = (0 : Int32)) :
    MetFree l (⟨"com/example/termwell/termwell/core/text/CharClassesPerlPinLaw", "expected", "(II)Z"⟩ : MethodName) (head1 (Jvm.Cond.code (⟨"com/example/termwell/termwell/core/text/CharClassesPerlPinLaw", "expected", "(II)Z"⟩ : MethodName) method_2_code 2 (some .boolean) :: ws) ({ frames := 0, cells := 0, slots := 0, locals := 0 } : Room)) (fun a U => a = #[(.int 1), (.int x)] ∧ Z.Warmed39 U.vm ∧ U.heap = h0) (fun _ _ _ _ _ => True) (fun _ U o U' => ∃ v L, o = .returned v ∧ Q5_1_x_32_None_all_SPACE Z x h0 n0 v U'.heap L ∧ FrameEnd U o U' L ({ frames := 0, cells := 0, slots := 0, locals := 0 } : Room).cells ({ frames := 0, cells := 0, slots := 0, locals := 0 } : Room).slots) := by
  refine MetFree.of_bodySF (plainFor_of_name pn_5) hisR ?_
  intro p e s m args below meth c s₁ Bd hml0 hP hK
  obtain ⟨rfl, hZ, hh⟩ := hP
  have hx := Bd.exec
  have hby := Bd.bytes
  have hml : c.maxLocals = 2 := hml0
  have hown : s.vm.findClass "com/example/termwell/termwell/core/text/CharClassesPerlPinLaw" = some m.cls := findClass_of_methodNamed Bd.named
  have hnm := (name_of_methodNamed Bd.named Bd.method).1
  have X0 : Stand p l e ({ frames := 0, cells := 0, slots := 0, locals := 0 } : Room) s m #[(.int 1), (.int x)] below meth c s₁ [] 0 0 := Stand.of_body Bd
  have e0 : s₁.heap = h0 := by rw [← hh, Bd.state]; rfl
  have N0 := Fr.nil n0
  have pre0 : ∀ t, Steps p.tables e below (s₁.setTop (mkF m 0 #[.val (.int 1), .val (.int x)] [])) t → Steps p.tables e below (s₁.setTop (entryFrame m #[(.int 1), (.int x)] 2)) t := fun t k => castTop (by first | (simp [entryFrame, mkF, argsToLocals, Value.category]; done) | rfl) k
  obtain ⟨fs, hr, hrun, hended, hW, hsame⟩ := X0.leave (v := some (.int 0)) (fun h => by rw [Bd.returns] at h; cases h)
  refine ⟨_, _, pre0 _ ?_, hrun, hended, _, _, rfl, ?_, ⟨_, rfl⟩, hW, hsame.mono (by decide) (by decide)⟩
  · show Steps p.tables e below (s₁.setTop (mkF m 0 #[.val (.int 1), .val (.int x)] [])) _
    refine XS.iloadN X0.here hx rfl (hb hby d5_0) rfl ?_
    show Steps p.tables e below (s₁.setTop (mkF m 1 #[.val (.int 1), .val (.int x)] [(.int 1)])) _
    refine XS.ifYes X0.here hx rfl (pc0 := 1) (pc' := 22) rfl (hb hby d5_1) rfl ((if0 _ _).trans (feq (by decide : ¬ ((1 : Int32) = (0 : Int32)))).2) (by decide) (by decide) ?_
    show Steps p.tables e below (s₁.setTop (mkF m 22 #[.val (.int 1), .val (.int x)] [])) _
    refine XS.iloadN X0.here hx rfl (hb hby d5_22) rfl ?_
    show Steps p.tables e below (s₁.setTop (mkF m 23 #[.val (.int 1), .val (.int x)] [(.int 1)])) _
    refine XS.iconst X0.here hx rfl (hb hby d5_23) ?_
    show Steps p.tables e below (s₁.setTop (mkF m 24 #[.val (.int 1), .val (.int x)] [(.int 1), (.int 1)])) _
    refine XS.icmpNo X0.here hx rfl (hb hby d5_24) rfl (teq (by decide : (1 : Int32) = (1 : Int32))).2 ?_
    show Steps p.tables e below (s₁.setTop (mkF m 27 #[.val (.int 1), .val (.int x)] [])) _
    refine XS.iloadN X0.here hx rfl (hb hby d5_27) rfl ?_
    show Steps p.tables e below (s₁.setTop (mkF m 28 #[.val (.int 1), .val (.int x)] [(.int x)])) _
    refine XS.bipush X0.here hx rfl (hb hby d5_28) ?_
    show Steps p.tables e below (s₁.setTop (mkF m 30 #[.val (.int 1), .val (.int x)] [(.int 9), (.int x)])) _
    refine XS.icmpNo X0.here hx rfl (hb hby d5_30) rfl (feq (own_nelo hlo_x (by decide) : ¬ (x = (9 : Int32)))).1 ?_
    show Steps p.tables e below (s₁.setTop (mkF m 33 #[.val (.int 1), .val (.int x)] [])) _
    refine XS.iloadN X0.here hx rfl (hb hby d5_33) rfl ?_
    show Steps p.tables e below (s₁.setTop (mkF m 34 #[.val (.int 1), .val (.int x)] [(.int x)])) _
    refine XS.bipush X0.here hx rfl (hb hby d5_34) ?_
    show Steps p.tables e below (s₁.setTop (mkF m 36 #[.val (.int 1), .val (.int x)] [(.int 10), (.int x)])) _
    refine XS.icmpNo X0.here hx rfl (hb hby d5_36) rfl (feq (own_nelo hlo_x (by decide) : ¬ (x = (10 : Int32)))).1 ?_
    show Steps p.tables e below (s₁.setTop (mkF m 39 #[.val (.int 1), .val (.int x)] [])) _
    refine XS.iloadN X0.here hx rfl (hb hby d5_39) rfl ?_
    show Steps p.tables e below (s₁.setTop (mkF m 40 #[.val (.int 1), .val (.int x)] [(.int x)])) _
    refine XS.bipush X0.here hx rfl (hb hby d5_40) ?_
    show Steps p.tables e below (s₁.setTop (mkF m 42 #[.val (.int 1), .val (.int x)] [(.int 12), (.int x)])) _
    refine XS.icmpNo X0.here hx rfl (hb hby d5_42) rfl (feq (own_nelo hlo_x (by decide) : ¬ (x = (12 : Int32)))).1 ?_
    show Steps p.tables e below (s₁.setTop (mkF m 45 #[.val (.int 1), .val (.int x)] [])) _
    refine XS.iloadN X0.here hx rfl (hb hby d5_45) rfl ?_
    show Steps p.tables e below (s₁.setTop (mkF m 46 #[.val (.int 1), .val (.int x)] [(.int x)])) _
    refine XS.bipush X0.here hx rfl (hb hby d5_46) ?_
    show Steps p.tables e below (s₁.setTop (mkF m 48 #[.val (.int 1), .val (.int x)] [(.int 13), (.int x)])) _
    refine XS.icmpNo X0.here hx rfl (hb hby d5_48) rfl (feq (own_nelo hlo_x (by decide) : ¬ (x = (13 : Int32)))).1 ?_
    show Steps p.tables e below (s₁.setTop (mkF m 51 #[.val (.int 1), .val (.int x)] [])) _
    refine XS.iloadN X0.here hx rfl (hb hby d5_51) rfl ?_
    show Steps p.tables e below (s₁.setTop (mkF m 52 #[.val (.int 1), .val (.int x)] [(.int x)])) _
    refine XS.bipush X0.here hx rfl (hb hby d5_52) ?_
    show Steps p.tables e below (s₁.setTop (mkF m 54 #[.val (.int 1), .val (.int x)] [(.int 32), (.int x)])) _
    refine XS.icmpYes X0.here hx rfl (pc0 := 54) (pc' := 61) rfl (hb hby d5_54) rfl (feq (own_nelo hlo_x (by decide) : ¬ (x = (32 : Int32)))).2 (by decide) (by decide) ?_
    show Steps p.tables e below (s₁.setTop (mkF m 61 #[.val (.int 1), .val (.int x)] [])) _
    refine XS.iconst X0.here hx rfl (hb hby d5_61) ?_
    show Steps p.tables e below (s₁.setTop (mkF m 62 #[.val (.int 1), .val (.int x)] [(.int 0)])) _
    exact retN X0 hx (t := .boolean) Bd.returns (by simp) (hb hby d5_62) hr
  · show Q5_1_x_32_None_all_SPACE Z x h0 n0 _ s₁.heap _
    rw [e0]
    exact ⟨(by rw [hret]), N0, rfl⟩
def Q5_all_SPACE (Z : State) (x : Int32) (h0 : Heap) (n0 : Nat) (v : Option Value) (h : Heap) (L : List Loc) : Prop := v = some (.int (own_s x)) ∧ Fr n0 L ∧ h = h0
set_option maxRecDepth 65536 in
set_option maxHeartbeats 40000000 in
theorem rm5_all_SPACE (l : Launch) (Z : State) (a0 : Array Value) (hw : ∀ d ∈ tables_1, d.before a0 Z = true) (ws : List Jvm.Cond) (x : Int32) (h0 : Heap) (n0 : Nat) (Z0 : n0 ≤ h0.size) :
    MetFree l (⟨"com/example/termwell/termwell/core/text/CharClassesPerlPinLaw", "expected", "(II)Z"⟩ : MethodName) (head1 (Jvm.Cond.code (⟨"com/example/termwell/termwell/core/text/CharClassesPerlPinLaw", "expected", "(II)Z"⟩ : MethodName) method_2_code 2 (some .boolean) :: ws) ({ frames := 0, cells := 0, slots := 0, locals := 0 } : Room)) (fun a U => a = #[(.int 1), (.int x)] ∧ Z.Warmed39 U.vm ∧ U.heap = h0) (fun _ _ _ _ _ => True) (fun _ U o U' => ∃ v L, o = .returned v ∧ Q5_all_SPACE Z x h0 n0 v U'.heap L ∧ FrameEnd U o U' L ({ frames := 0, cells := 0, slots := 0, locals := 0 } : Room).cells ({ frames := 0, cells := 0, slots := 0, locals := 0 } : Room).slots) := by
  rcases (by omega : (x.toInt < 9) ∨ (x.toInt = 9) ∨ (x.toInt = 10) ∨ (x.toInt = 11) ∨ (x.toInt = 12) ∨ (x.toInt = 13) ∨ (13 < x.toInt ∧ x.toInt < 32) ∨ (x.toInt = 32) ∨ (32 < x.toInt)) with h | h | h | h | h | h | h | h | h
  · exact rm5_1_x_None_9_all_SPACE l Z a0 hw ws x h0 n0 Z0 (own_ilt (by decide) h) (by unfold own_s; (repeat' split) <;> first | rfl | (exfalso; omega))
  · obtain rfl : x = (9 : Int32) := Int32.toInt_inj.mp (h.trans (by decide))
    exact rm5_1_9_all_SPACE l Z a0 hw ws  h0 n0 Z0 (by decide)
  · obtain rfl : x = (10 : Int32) := Int32.toInt_inj.mp (h.trans (by decide))
    exact rm5_1_10_all_SPACE l Z a0 hw ws  h0 n0 Z0 (by decide)
  · obtain rfl : x = (11 : Int32) := Int32.toInt_inj.mp (h.trans (by decide))
    exact rm5_1_11_all_SPACE l Z a0 hw ws  h0 n0 Z0 (by decide)
  · obtain rfl : x = (12 : Int32) := Int32.toInt_inj.mp (h.trans (by decide))
    exact rm5_1_12_all_SPACE l Z a0 hw ws  h0 n0 Z0 (by decide)
  · obtain rfl : x = (13 : Int32) := Int32.toInt_inj.mp (h.trans (by decide))
    exact rm5_1_13_all_SPACE l Z a0 hw ws  h0 n0 Z0 (by decide)
  · exact rm5_1_x_13_32_all_SPACE l Z a0 hw ws x h0 n0 Z0 (own_igt (by decide) h.1) (own_ilt (by decide) h.2) (by unfold own_s; (repeat' split) <;> first | rfl | (exfalso; omega))
  · obtain rfl : x = (32 : Int32) := Int32.toInt_inj.mp (h.trans (by decide))
    exact rm5_1_32_all_SPACE l Z a0 hw ws  h0 n0 Z0 (by decide)
  · exact rm5_1_x_32_None_all_SPACE l Z a0 hw ws x h0 n0 Z0 (own_igt (by decide) h) (by unfold own_s; (repeat' split) <;> first | rfl | (exfalso; omega))
def Q1_115 (Z : State) (w_SPACE : Addr) (h0 : Heap) (n0 : Nat) (v : Option Value) (h : Heap) (L : List Loc) : Prop := v = some (.ref w_SPACE) ∧ Fr n0 L ∧ h = h0
set_option maxRecDepth 65536 in
set_option maxHeartbeats 40000000 in
theorem rm1_115 (l : Launch) (Z : State) (a0 : Array Value) (hw : ∀ d ∈ tables_1, d.before a0 Z = true) (ws : List Jvm.Cond) (w_SPACE : Addr) (h0 : Heap) (n0 : Nat) (Z0 : n0 ≤ h0.size) (S_SPACE : Sta Z h0 "com/example/termwell/termwell/core/text/CharClasses" "SPACE" "Lcom/example/termwell/termwell/core/text/CodePointSet;" (.ref w_SPACE)) :
    MetFree l (⟨"com/example/termwell/termwell/core/text/CharClasses", "perl", "(C)Lcom/example/termwell/termwell/core/text/CodePointSet;"⟩ : MethodName) (head1 (Jvm.Cond.code (⟨"com/example/termwell/termwell/core/text/CharClasses", "perl", "(C)Lcom/example/termwell/termwell/core/text/CodePointSet;"⟩ : MethodName) prog_15_method_2_code 1 (some (.object "com/example/termwell/termwell/core/text/CodePointSet")) :: ws) ({ frames := 0, cells := 0, slots := 0, locals := 0 } : Room)) (fun a U => a = #[(.int 115)] ∧ Z.Warmed39 U.vm ∧ U.heap = h0) (fun _ _ _ _ _ => True) (fun _ U o U' => ∃ v L, o = .returned v ∧ Q1_115 Z w_SPACE h0 n0 v U'.heap L ∧ FrameEnd U o U' L ({ frames := 0, cells := 0, slots := 0, locals := 0 } : Room).cells ({ frames := 0, cells := 0, slots := 0, locals := 0 } : Room).slots) := by
  refine MetFree.of_bodySF (plainFor_of_name pn_1) hisR ?_
  intro p e s m args below meth c s₁ Bd hml0 hP hK
  obtain ⟨rfl, hZ, hh⟩ := hP
  have hx := Bd.exec
  have hby := Bd.bytes
  have hml : c.maxLocals = 1 := hml0
  have hown : s.vm.findClass "com/example/termwell/termwell/core/text/CharClasses" = some m.cls := findClass_of_methodNamed Bd.named
  have hnm := (name_of_methodNamed Bd.named Bd.method).1
  have X0 : Stand p l e ({ frames := 0, cells := 0, slots := 0, locals := 0 } : Room) s m #[(.int 115)] below meth c s₁ [] 0 0 := Stand.of_body Bd
  have e0 : s₁.heap = h0 := by rw [← hh, Bd.state]; rfl
  have N0 := Fr.nil n0
  have pre0 : ∀ t, Steps p.tables e below (s₁.setTop (mkF m 0 #[.val (.int 115)] [])) t → Steps p.tables e below (s₁.setTop (entryFrame m #[(.int 115)] 1)) t := fun t k => castTop (by first | (simp [entryFrame, mkF, argsToLocals, Value.category]; done) | rfl) k
  obtain ⟨T1, X1, e1, st1⟩ := getS2 X0 hx hZ hown (host := "") (Or.inl (hw _ (List.mem_of_getElem? (i := 28) rfl))) Via.refl e0 S_SPACE (g := (mkF m 42 #[.val (.int 115)] [])) rfl (hb hby d1_42)
  obtain ⟨fs, hr, hrun, hended, hW, hsame⟩ := X1.leave (v := some (.ref w_SPACE)) (fun h => by rw [Bd.returns] at h; cases h)
  refine ⟨_, _, pre0 _ ?_, hrun, hended, _, _, rfl, ?_, ⟨_, rfl⟩, hW, hsame.mono (by decide) (by decide)⟩
  · show Steps p.tables e below (s₁.setTop (mkF m 0 #[.val (.int 115)] [])) _
    refine XS.iloadN X0.here hx rfl (hb hby d1_0) rfl ?_
    show Steps p.tables e below (s₁.setTop (mkF m 1 #[.val (.int 115)] [(.int 115)])) _
    refine X0.lookupswitchHit hx (g := (mkF m 1 #[.val (.int 115)] [(.int 115)])) rfl (k := (115 : Int32)) (rest := []) rfl (hb hby d1_1) (by decide) (a := 115) (off := 41) (by decide) (by show (0 : Int) ≤ ((1 : Nat) : Int) + 41; decide) _ ?_
    show Steps p.tables e below (s₁.setTop (mkF m 42 #[.val (.int 115)] [])) _
    refine st1 _ ?_
    show Steps p.tables e below (T1.setTop (mkF m 45 #[.val (.int 115)] [(.ref w_SPACE)])) _
    refine XS.goto X1.here hx rfl (pc0 := 45) (pc' := 68) rfl (hb hby d1_45) (by decide) (by decide) ?_
    show Steps p.tables e below (T1.setTop (mkF m 68 #[.val (.int 115)] [(.ref w_SPACE)])) _
    jvm_step X1.here [X1.here.top, hx, (hb hby d1_68), X1.method', Bd.returns, Value.isRef, FieldType.isReference]
    first | (intro acts; rw [hr _ acts rfl rfl rfl]) | rw [hr _ _ rfl rfl rfl]
    exact Steps.refl _
  · show Q1_115 Z w_SPACE h0 n0 _ T1.heap _
    rw [e1]
    exact ⟨rfl, N0, rfl⟩
def Q0_k1 (Z : State) (p1 : Int32) (p2 : Int32) (w_SPACE : Addr) (r_SPACE : Addr) (k_SPACE : ClassId) (h0 : Heap) (n0 : Nat) (v : Option Value) (h : Heap) (L : List Loc) : Prop := v = some (.int 1) ∧ Fr n0 L ∧ h = h0
set_option maxRecDepth 65536 in
set_option maxHeartbeats 40000000 in
theorem rm0_k1 (l : Launch) (Z : State) (a0 : Array Value) (hw : ∀ d ∈ tables_1, d.before a0 Z = true) (ws : List Jvm.Cond) (p1 : Int32) (p2 : Int32) (w_SPACE : Addr) (r_SPACE : Addr) (k_SPACE : ClassId) (h0 : Heap) (n0 : Nat) (Z0 : n0 ≤ h0.size) (hk : ((p1 &&& (2147483647 : Int32)) % (3 : Int32)) = (1 : Int32)) (S_SPACE : Sta Z h0 "com/example/termwell/termwell/core/text/CharClasses" "SPACE" "Lcom/example/termwell/termwell/core/text/CodePointSet;" (.ref w_SPACE)) (F_ranges_w_SPACE : Fld Z h0 w_SPACE "com/example/termwell/termwell/core/text/CodePointSet" "ranges" "[I" (.ref r_SPACE)) (V_r_SPACE : Arv Z h0 r_SPACE k_SPACE .int (6 : Int32) [(.int 9), (.int 10), (.int 12), (.int 13), (.int 32), (.int 32)] (.int (0 : Int32))) (E_w_SPACE : Exa Z h0 w_SPACE "com/example/termwell/termwell/core/text/CodePointSet") :
    MetFree l x (head1 (Jvm.Cond.code x code maxLocals ret :: ws) room_1) (fun a U => a = #[(.int p1), (.int p2)] ∧ Z.Warmed39 U.vm ∧ U.heap = h0) (fun _ _ _ _ _ => True) (fun _ U o U' => ∃ v L, o = .returned v ∧ Q0_k1 Z p1 p2 w_SPACE r_SPACE k_SPACE h0 n0 v U'.heap L ∧ FrameEnd U o U' L room_1.cells room_1.slots) := by
  refine MetFree.of_bodySF (plainFor_of_name pn_0) hisR ?_
  intro p e s m args below meth c s₁ Bd hml0 hP hK
  obtain ⟨rfl, hZ, hh⟩ := hP
  have hx := Bd.exec
  have hby := Bd.bytes
  have hml : c.maxLocals = 8 := hml0
  have hown : s.vm.findClass "com/example/termwell/termwell/core/text/CharClassesPerlPinLaw" = some m.cls := findClass_of_methodNamed Bd.named
  have hnm := (name_of_methodNamed Bd.named Bd.method).1
  have X0 : Stand p l e room_1 s m #[(.int p1), (.int p2)] below meth c s₁ [] 0 0 := Stand.of_body Bd
  have e0 : s₁.heap = h0 := by rw [← hh, Bd.state]; rfl
  have N0 := Fr.nil n0
  have pre0 : ∀ t, Steps p.tables e below (s₁.setTop (mkF m 0 #[.val (.int p1), .val (.int p2), .unset, .unset, .unset, .unset, .unset, .unset] [])) t → Steps p.tables e below (s₁.setTop (entryFrame m #[(.int p1), (.int p2)] maxLocals)) t := fun t k => castTop (by first | (simp [entryFrame, mkF, argsToLocals, Value.category, maxLocals]; done) | rfl) k
  obtain ⟨_, _, ⟨T1, L1, k1, n1⟩, -, X1, ⟨Lc1, hQ1, l1, y1, z1⟩, st1⟩ := Jvm.LawKit.callS X0 hx (y := (⟨"com/example/termwell/termwell/core/text/CharClasses", "perl", "(C)Lcom/example/termwell/termwell/core/text/CodePointSet;"⟩ : MethodName)) hown (mvT hZ (hw _ (List.mem_of_getElem? (i := 1) rfl))) (mvT hZ (hw _ (List.mem_of_getElem? (i := 2) rfl))) (mvT hZ (hw _ (List.mem_of_getElem? (i := 3) rfl))) (mvT hZ (hw _ (List.mem_of_getElem? (i := 4) rfl))) (by decide) (backOf (W := 0) (rm1_115 l Z a0 hw [] w_SPACE h0 n0 Z0 S_SPACE) hZ (hw _ (List.mem_of_getElem? (i := 4) rfl)) (hw _ (List.mem_of_getElem? (i := 3) rfl)) (by decide) (by decide)) (g := (mkF m 30 #[.val (.int p1), .val (.int p2), .val (.int 1), .val (.int 115), .unset, .unset, .unset, .unset] [(.int 115)])) rfl (by rw [hml]; rfl) (argsL := [(.int 115)]) (rest := []) (lenOf pd__C_Lcom_example_termwell_termwell_core_text_CodePointSet_ rfl) rfl (by show 2 * 0 + _ ≤ _; exact Nat.le_of_eq rfl) (hb hby at_30) (fun _ _ => ⟨rfl, e0, (by decide : 0 + 0 ≤ _), (by decide : 0 + 0 ≤ _)⟩)
  dsimp only [Pt.U, Pt.locs, Pt.cells, Pt.slots] at X1 l1 y1 z1 st1 hQ1
  subst l1 y1 z1
  obtain ⟨rfl, N1q, e1⟩ := hQ1
  have N1 := Fr.app N0 N1q
  obtain ⟨cq2, kq2, q2a, q2b, q2c⟩ := isOf hZ e1 E_w_SPACE
  obtain ⟨_, _, ⟨T2, L2, k2, n2⟩, -, X2, ⟨Lc2, hQ2, l2, y2, z2⟩, st2⟩ := X1.virtualBack hx (y := (⟨"com/example/termwell/termwell/core/text/CodePointSet", "contains", "(I)Z"⟩ : MethodName)) (z := (⟨"com/example/termwell/termwell/core/text/CodePointSet", "contains", "(I)Z"⟩ : MethodName)) hown (mvT hZ (hw _ (List.mem_of_getElem? (i := 7) rfl))) (mvT hZ (hw _ (List.mem_of_getElem? (i := 8) rfl))) (notFace_of_selects (args := #[]) (mvT hZ (hw _ (List.mem_of_getElem? (i := 10) rfl)))) (mvT hZ (hw _ (List.mem_of_getElem? (i := 10) rfl))) (mvT hZ (hw _ (List.mem_of_getElem? (i := 9) rfl))) (by decide) (backOf (W := 0) (rm2_all_SPACE l Z a0 hw [] p2 w_SPACE r_SPACE k_SPACE h0 n0 Z0 F_ranges_w_SPACE V_r_SPACE) hZ (hw _ (List.mem_of_getElem? (i := 12) rfl)) (hw _ (List.mem_of_getElem? (i := 11) rfl)) (by decide) (by decide)) q2a q2c (g := (mkF m 45 #[.val (.int p1), .val (.int p2), .val (.int 1), .val (.int 115), .val (.ref w_SPACE), .val (.int (p2 &&& (255 : Int32))), .unset, .unset] [(.int p2), (.ref w_SPACE)])) rfl (by rw [hml]; rfl) (Steps.refl _) (argsL := [(.int p2)]) (rest := []) (lenOf pd__I_Z rfl) rfl (by show 2 * 0 + _ ≤ _; exact Nat.le_of_eq rfl) (hb hby at_45) (fun _ _ => ⟨rfl, e1, (by decide : 0 + 0 ≤ _), (by decide : 0 + 0 ≤ _)⟩)
  dsimp only [Pt.U, Pt.locs, Pt.cells, Pt.slots] at X2 l2 y2 z2 st2 hQ2
  subst l2 y2 z2
  obtain ⟨rfl, N2q, e2⟩ := hQ2
  have N2 := Fr.app N1 N2q
  obtain ⟨_, _, ⟨T3, L3, k3, n3⟩, -, X3, ⟨Lc3, hQ3, l3, y3, z3⟩, st3⟩ := Jvm.LawKit.callS X2 hx (y := (⟨"com/example/termwell/termwell/core/text/CharClassesPerlPinLaw", "expected", "(II)Z"⟩ : MethodName)) hown (mvT hZ (hw _ (List.mem_of_getElem? (i := 22) rfl))) (mvT hZ (hw _ (List.mem_of_getElem? (i := 23) rfl))) (mvT hZ (hw _ (List.mem_of_getElem? (i := 24) rfl))) (mvT hZ (hw _ (List.mem_of_getElem? (i := 25) rfl))) (by decide) (backOf (W := 1) (rm5_all_SPACE l Z a0 hw [] p2 h0 n0 Z0) hZ (hw _ (List.mem_of_getElem? (i := 25) rfl)) (hw _ (List.mem_of_getElem? (i := 24) rfl)) (by decide) (by decide)) (g := (mkF m 50 #[.val (.int p1), .val (.int p2), .val (.int 1), .val (.int 115), .val (.ref w_SPACE), .val (.int (p2 &&& (255 : Int32))), .unset, .unset] [(.int p2), (.int 1), (.int (own_s p2))])) rfl (by rw [hml]; rfl) (argsL := [(.int 1), (.int p2)]) (rest := [(.int (own_s p2))]) (lenOf pd__II_Z rfl) rfl (by show 2 * 0 + _ ≤ _; exact Nat.le_of_eq rfl) (hb hby at_50) (fun _ _ => ⟨rfl, e2, (by decide : 0 + 0 ≤ _), (by decide : 0 + 0 ≤ _)⟩)
  dsimp only [Pt.U, Pt.locs, Pt.cells, Pt.slots] at X3 l3 y3 z3 st3 hQ3
  subst l3 y3 z3
  obtain ⟨rfl, N3q, e3⟩ := hQ3
  have N3 := Fr.app N2 N3q
  obtain ⟨cq4, kq4, q4a, q4b, q4c⟩ := isOf hZ e3 E_w_SPACE
  obtain ⟨_, _, ⟨T4, L4, k4, n4⟩, -, X4, ⟨Lc4, hQ4, l4, y4, z4⟩, st4⟩ := X3.virtualBack hx (y := (⟨"com/example/termwell/termwell/core/text/CodePointSet", "contains", "(I)Z"⟩ : MethodName)) (z := (⟨"com/example/termwell/termwell/core/text/CodePointSet", "contains", "(I)Z"⟩ : MethodName)) hown (mvT hZ (hw _ (List.mem_of_getElem? (i := 7) rfl))) (mvT hZ (hw _ (List.mem_of_getElem? (i := 8) rfl))) (notFace_of_selects (args := #[]) (mvT hZ (hw _ (List.mem_of_getElem? (i := 10) rfl)))) (mvT hZ (hw _ (List.mem_of_getElem? (i := 10) rfl))) (mvT hZ (hw _ (List.mem_of_getElem? (i := 9) rfl))) (by decide) (backOf (W := 0) (rm2_all_SPACE l Z a0 hw [] (p2 &&& (255 : Int32)) w_SPACE r_SPACE k_SPACE h0 n0 Z0 F_ranges_w_SPACE V_r_SPACE) hZ (hw _ (List.mem_of_getElem? (i := 12) rfl)) (hw _ (List.mem_of_getElem? (i := 11) rfl)) (by decide) (by decide)) q4a q4c (g := (mkF m 67 #[.val (.int p1), .val (.int p2), .val (.int 1), .val (.int 115), .val (.ref w_SPACE), .val (.int (p2 &&& (255 : Int32))), .val (.int 1), .unset] [(.int (p2 &&& (255 : Int32))), (.ref w_SPACE)])) rfl (by rw [hml]; rfl) (Steps.refl _) (argsL := [(.int (p2 &&& (255 : Int32)))]) (rest := []) (lenOf pd__I_Z rfl) rfl (by show 2 * 0 + _ ≤ _; exact Nat.le_of_eq rfl) (hb hby at_67) (fun _ _ => ⟨rfl, e3, (by decide : 0 + 0 ≤ _), (by decide : 0 + 0 ≤ _)⟩)
  dsimp only [Pt.U, Pt.locs, Pt.cells, Pt.slots] at X4 l4 y4 z4 st4 hQ4
  subst l4 y4 z4
  obtain ⟨rfl, N4q, e4⟩ := hQ4
  have N4 := Fr.app N3 N4q
  obtain ⟨_, _, ⟨T5, L5, k5, n5⟩, -, X5, ⟨Lc5, hQ5, l5, y5, z5⟩, st5⟩ := Jvm.LawKit.callS X4 hx (y := (⟨"com/example/termwell/termwell/core/text/CharClassesPerlPinLaw", "expected", "(II)Z"⟩ : MethodName)) hown (mvT hZ (hw _ (List.mem_of_getElem? (i := 22) rfl))) (mvT hZ (hw _ (List.mem_of_getElem? (i := 23) rfl))) (mvT hZ (hw _ (List.mem_of_getElem? (i := 24) rfl))) (mvT hZ (hw _ (List.mem_of_getElem? (i := 25) rfl))) (by decide) (backOf (W := 1) (rm5_all_SPACE l Z a0 hw [] (p2 &&& (255 : Int32)) h0 n0 Z0) hZ (hw _ (List.mem_of_getElem? (i := 25) rfl)) (hw _ (List.mem_of_getElem? (i := 24) rfl)) (by decide) (by decide)) (g := (mkF m 73 #[.val (.int p1), .val (.int p2), .val (.int 1), .val (.int 115), .val (.ref w_SPACE), .val (.int (p2 &&& (255 : Int32))), .val (.int 1), .unset] [(.int (p2 &&& (255 : Int32))), (.int 1), (.int (own_s (p2 &&& (255 : Int32))))])) rfl (by rw [hml]; rfl) (argsL := [(.int 1), (.int (p2 &&& (255 : Int32)))]) (rest := [(.int (own_s (p2 &&& (255 : Int32))))]) (lenOf pd__II_Z rfl) rfl (by show 2 * 0 + _ ≤ _; exact Nat.le_of_eq rfl) (hb hby at_73) (fun _ _ => ⟨rfl, e4, (by decide : 0 + 0 ≤ _), (by decide : 0 + 0 ≤ _)⟩)
  dsimp only [Pt.U, Pt.locs, Pt.cells, Pt.slots] at X5 l5 y5 z5 st5 hQ5
  subst l5 y5 z5
  obtain ⟨rfl, N5q, e5⟩ := hQ5
  have N5 := Fr.app N4 N5q
  obtain ⟨fs, hr, hrun, hended, hW, hsame⟩ := X5.leave (v := some (.int 1)) (fun h => by rw [Bd.returns] at h; cases h)
  refine ⟨_, _, pre0 _ ?_, hrun, hended, _, _, rfl, ?_, ⟨_, rfl⟩, hW, hsame.mono (by decide) (by decide)⟩
  · show Steps p.tables e below (s₁.setTop (mkF m 0 #[.val (.int p1), .val (.int p2), .unset, .unset, .unset, .unset, .unset, .unset] [])) _
    refine XS.iloadN X0.here hx rfl (hb hby at_0) rfl ?_
    show Steps p.tables e below (s₁.setTop (mkF m 1 #[.val (.int p1), .val (.int p2), .unset, .unset, .unset, .unset, .unset, .unset] [(.int p1)])) _
    refine X0.ldcInt hx hown (mvT hZ (hw _ (List.mem_of_getElem? (i := 0) rfl))) (g := (mkF m 1 #[.val (.int p1), .val (.int p2), .unset, .unset, .unset, .unset, .unset, .unset] [(.int p1)])) rfl (hb hby at_1) _ ?_
    show Steps p.tables e below (s₁.setTop (mkF m 3 #[.val (.int p1), .val (.int p2), .unset, .unset, .unset, .unset, .unset, .unset] [(.int 2147483647), (.int p1)])) _
    refine XS.iand X0.here hx rfl (hb hby at_3) rfl ?_
    show Steps p.tables e below (s₁.setTop (mkF m 4 #[.val (.int p1), .val (.int p2), .unset, .unset, .unset, .unset, .unset, .unset] [(.int (p1 &&& (2147483647 : Int32)))])) _
    refine XS.iconst X0.here hx rfl (hb hby at_4) ?_
    show Steps p.tables e below (s₁.setTop (mkF m 5 #[.val (.int p1), .val (.int p2), .unset, .unset, .unset, .unset, .unset, .unset] [(.int 3), (.int (p1 &&& (2147483647 : Int32)))])) _
    refine iremM X0 hx rfl (hb hby at_5) rfl (by decide) ?_
    show Steps p.tables e below (s₁.setTop (mkF m 6 #[.val (.int p1), .val (.int p2), .unset, .unset, .unset, .unset, .unset, .unset] [(.int ((p1 &&& (2147483647 : Int32)) % (3 : Int32)))])) _
    rw [hk]
    show Steps p.tables e below (s₁.setTop (mkF m 6 #[.val (.int p1), .val (.int p2), .unset, .unset, .unset, .unset, .unset, .unset] [(.int 1)])) _
    refine XS.istoreN X0.here hx rfl (hb hby at_6) rfl (l' := #[.val (.int p1), .val (.int p2), .val (.int 1), .unset, .unset, .unset, .unset, .unset]) rfl ?_
    show Steps p.tables e below (s₁.setTop (mkF m 7 #[.val (.int p1), .val (.int p2), .val (.int 1), .unset, .unset, .unset, .unset, .unset] [])) _
    refine XS.iloadN X0.here hx rfl (hb hby at_7) rfl ?_
    show Steps p.tables e below (s₁.setTop (mkF m 8 #[.val (.int p1), .val (.int p2), .val (.int 1), .unset, .unset, .unset, .unset, .unset] [(.int 1)])) _
    refine XS.ifYes X0.here hx rfl (pc0 := 8) (pc' := 16) rfl (hb hby at_8) rfl ((if0 _ _).trans (feq (by decide : ¬ ((1 : Int32) = (0 : Int32)))).2) (by decide) (by decide) ?_
    show Steps p.tables e below (s₁.setTop (mkF m 16 #[.val (.int p1), .val (.int p2), .val (.int 1), .unset, .unset, .unset, .unset, .unset] [])) _
    refine XS.iloadN X0.here hx rfl (hb hby at_16) rfl ?_
    show Steps p.tables e below (s₁.setTop (mkF m 17 #[.val (.int p1), .val (.int p2), .val (.int 1), .unset, .unset, .unset, .unset, .unset] [(.int 1)])) _
    refine XS.iconst X0.here hx rfl (hb hby at_17) ?_
    show Steps p.tables e below (s₁.setTop (mkF m 18 #[.val (.int p1), .val (.int p2), .val (.int 1), .unset, .unset, .unset, .unset, .unset] [(.int 1), (.int 1)])) _
    refine XS.icmpNo X0.here hx rfl (hb hby at_18) rfl (teq (by decide : (1 : Int32) = (1 : Int32))).2 ?_
    show Steps p.tables e below (s₁.setTop (mkF m 21 #[.val (.int p1), .val (.int p2), .val (.int 1), .unset, .unset, .unset, .unset, .unset] [])) _
    refine XS.bipush X0.here hx rfl (hb hby at_21) ?_
    show Steps p.tables e below (s₁.setTop (mkF m 23 #[.val (.int p1), .val (.int p2), .val (.int 1), .unset, .unset, .unset, .unset, .unset] [(.int 115)])) _
    refine XS.goto X0.here hx rfl (pc0 := 23) (pc' := 28) rfl (hb hby at_23) (by decide) (by decide) ?_
    show Steps p.tables e below (s₁.setTop (mkF m 28 #[.val (.int p1), .val (.int p2), .val (.int 1), .unset, .unset, .unset, .unset, .unset] [(.int 115)])) _
    refine XS.istoreN X0.here hx rfl (hb hby at_28) rfl (l' := #[.val (.int p1), .val (.int p2), .val (.int 1), .val (.int 115), .unset, .unset, .unset, .unset]) rfl ?_
    show Steps p.tables e below (s₁.setTop (mkF m 29 #[.val (.int p1), .val (.int p2), .val (.int 1), .val (.int 115), .unset, .unset, .unset, .unset] [])) _
    refine XS.iloadN X0.here hx rfl (hb hby at_29) rfl ?_
    show Steps p.tables e below (s₁.setTop (mkF m 30 #[.val (.int p1), .val (.int p2), .val (.int 1), .val (.int 115), .unset, .unset, .unset, .unset] [(.int 115)])) _
    refine st1 _ ?_
    show Steps p.tables e below (T1.setTop (mkF m 33 #[.val (.int p1), .val (.int p2), .val (.int 1), .val (.int 115), .unset, .unset, .unset, .unset] [(.ref w_SPACE)])) _
    refine XS.astore X1.here hx rfl (hb hby at_33) rfl rfl (l' := #[.val (.int p1), .val (.int p2), .val (.int 1), .val (.int 115), .val (.ref w_SPACE), .unset, .unset, .unset]) rfl ?_
    show Steps p.tables e below (T1.setTop (mkF m 35 #[.val (.int p1), .val (.int p2), .val (.int 1), .val (.int 115), .val (.ref w_SPACE), .unset, .unset, .unset] [])) _
    refine XS.iloadN X1.here hx rfl (hb hby at_35) rfl ?_
    show Steps p.tables e below (T1.setTop (mkF m 36 #[.val (.int p1), .val (.int p2), .val (.int 1), .val (.int 115), .val (.ref w_SPACE), .unset, .unset, .unset] [(.int p2)])) _
    refine XS.sipush X1.here hx rfl (hb hby at_36) ?_
    show Steps p.tables e below (T1.setTop (mkF m 39 #[.val (.int p1), .val (.int p2), .val (.int 1), .val (.int 115), .val (.ref w_SPACE), .unset, .unset, .unset] [(.int 255), (.int p2)])) _
    refine XS.iand X1.here hx rfl (hb hby at_39) rfl ?_
    show Steps p.tables e below (T1.setTop (mkF m 40 #[.val (.int p1), .val (.int p2), .val (.int 1), .val (.int 115), .val (.ref w_SPACE), .unset, .unset, .unset] [(.int (p2 &&& (255 : Int32)))])) _
    refine XS.istore X1.here hx rfl (hb hby at_40) rfl (l' := #[.val (.int p1), .val (.int p2), .val (.int 1), .val (.int 115), .val (.ref w_SPACE), .val (.int (p2 &&& (255 : Int32))), .unset, .unset]) rfl ?_
    show Steps p.tables e below (T1.setTop (mkF m 42 #[.val (.int p1), .val (.int p2), .val (.int 1), .val (.int 115), .val (.ref w_SPACE), .val (.int (p2 &&& (255 : Int32))), .unset, .unset] [])) _
    refine XS.aload X1.here hx rfl (hb hby at_42) rfl rfl ?_
    show Steps p.tables e below (T1.setTop (mkF m 44 #[.val (.int p1), .val (.int p2), .val (.int 1), .val (.int 115), .val (.ref w_SPACE), .val (.int (p2 &&& (255 : Int32))), .unset, .unset] [(.ref w_SPACE)])) _
    refine XS.iloadN X1.here hx rfl (hb hby at_44) rfl ?_
    show Steps p.tables e below (T1.setTop (mkF m 45 #[.val (.int p1), .val (.int p2), .val (.int 1), .val (.int 115), .val (.ref w_SPACE), .val (.int (p2 &&& (255 : Int32))), .unset, .unset] [(.int p2), (.ref w_SPACE)])) _
    refine st2.trans ?_
    show Steps p.tables e below (T2.setTop (mkF m 48 #[.val (.int p1), .val (.int p2), .val (.int 1), .val (.int 115), .val (.ref w_SPACE), .val (.int (p2 &&& (255 : Int32))), .unset, .unset] [(.int (own_s p2))])) _
    refine XS.iloadN X2.here hx rfl (hb hby at_48) rfl ?_
    show Steps p.tables e below (T2.setTop (mkF m 49 #[.val (.int p1), .val (.int p2), .val (.int 1), .val (.int 115), .val (.ref w_SPACE), .val (.int (p2 &&& (255 : Int32))), .unset, .unset] [(.int 1), (.int (own_s p2))])) _
    refine XS.iloadN X2.here hx rfl (hb hby at_49) rfl ?_
    show Steps p.tables e below (T2.setTop (mkF m 50 #[.val (.int p1), .val (.int p2), .val (.int 1), .val (.int 115), .val (.ref w_SPACE), .val (.int (p2 &&& (255 : Int32))), .unset, .unset] [(.int p2), (.int 1), (.int (own_s p2))])) _
    refine st3 _ ?_
    show Steps p.tables e below (T3.setTop (mkF m 53 #[.val (.int p1), .val (.int p2), .val (.int 1), .val (.int 115), .val (.ref w_SPACE), .val (.int (p2 &&& (255 : Int32))), .unset, .unset] [(.int (own_s p2)), (.int (own_s p2))])) _
    refine XS.icmpNo X3.here hx rfl (hb hby at_53) rfl (teq (rfl : (own_s p2) = (own_s p2))).2 ?_
    show Steps p.tables e below (T3.setTop (mkF m 56 #[.val (.int p1), .val (.int p2), .val (.int 1), .val (.int 115), .val (.ref w_SPACE), .val (.int (p2 &&& (255 : Int32))), .unset, .unset] [])) _
    refine XS.iconst X3.here hx rfl (hb hby at_56) ?_
    show Steps p.tables e below (T3.setTop (mkF m 57 #[.val (.int p1), .val (.int p2), .val (.int 1), .val (.int 115), .val (.ref w_SPACE), .val (.int (p2 &&& (255 : Int32))), .unset, .unset] [(.int 1)])) _
    refine XS.goto X3.here hx rfl (pc0 := 57) (pc' := 61) rfl (hb hby at_57) (by decide) (by decide) ?_
    show Steps p.tables e below (T3.setTop (mkF m 61 #[.val (.int p1), .val (.int p2), .val (.int 1), .val (.int 115), .val (.ref w_SPACE), .val (.int (p2 &&& (255 : Int32))), .unset, .unset] [(.int 1)])) _
    refine XS.istore X3.here hx rfl (hb hby at_61) rfl (l' := #[.val (.int p1), .val (.int p2), .val (.int 1), .val (.int 115), .val (.ref w_SPACE), .val (.int (p2 &&& (255 : Int32))), .val (.int 1), .unset]) rfl ?_
    show Steps p.tables e below (T3.setTop (mkF m 63 #[.val (.int p1), .val (.int p2), .val (.int 1), .val (.int 115), .val (.ref w_SPACE), .val (.int (p2 &&& (255 : Int32))), .val (.int 1), .unset] [])) _
    refine XS.aload X3.here hx rfl (hb hby at_63) rfl rfl ?_
    show Steps p.tables e below (T3.setTop (mkF m 65 #[.val (.int p1), .val (.int p2), .val (.int 1), .val (.int 115), .val (.ref w_SPACE), .val (.int (p2 &&& (255 : Int32))), .val (.int 1), .unset] [(.ref w_SPACE)])) _
    refine XS.iload X3.here hx rfl (hb hby at_65) rfl ?_
    show Steps p.tables e below (T3.setTop (mkF m 67 #[.val (.int p1), .val (.int p2), .val (.int 1), .val (.int 115), .val (.ref w_SPACE), .val (.int (p2 &&& (255 : Int32))), .val (.int 1), .unset] [(.int (p2 &&& (255 : Int32))), (.ref w_SPACE)])) _
    refine st4.trans ?_
    show Steps p.tables e below (T4.setTop (mkF m 70 #[.val (.int p1), .val (.int p2), .val (.int 1), .val (.int 115), .val (.ref w_SPACE), .val (.int (p2 &&& (255 : Int32))), .val (.int 1), .unset] [(.int (own_s (p2 &&& (255 : Int32))))])) _
    refine XS.iloadN X4.here hx rfl (hb hby at_70) rfl ?_
    show Steps p.tables e below (T4.setTop (mkF m 71 #[.val (.int p1), .val (.int p2), .val (.int 1), .val (.int 115), .val (.ref w_SPACE), .val (.int (p2 &&& (255 : Int32))), .val (.int 1), .unset] [(.int 1), (.int (own_s (p2 &&& (255 : Int32))))])) _
    refine XS.iload X4.here hx rfl (hb hby at_71) rfl ?_
    show Steps p.tables e below (T4.setTop (mkF m 73 #[.val (.int p1), .val (.int p2), .val (.int 1), .val (.int 115), .val (.ref w_SPACE), .val (.int (p2 &&& (255 : Int32))), .val (.int 1), .unset] [(.int (p2 &&& (255 : Int32))), (.int 1), (.int (own_s (p2 &&& (255 : Int32))))])) _
    refine st5 _ ?_
    show Steps p.tables e below (T5.setTop (mkF m 76 #[.val (.int p1), .val (.int p2), .val (.int 1), .val (.int 115), .val (.ref w_SPACE), .val (.int (p2 &&& (255 : Int32))), .val (.int 1), .unset] [(.int (own_s (p2 &&& (255 : Int32)))), (.int (own_s (p2 &&& (255 : Int32))))])) _
    refine XS.icmpNo X5.here hx rfl (hb hby at_76) rfl (teq (rfl : (own_s (p2 &&& (255 : Int32))) = (own_s (p2 &&& (255 : Int32))))).2 ?_
    show Steps p.tables e below (T5.setTop (mkF m 79 #[.val (.int p1), .val (.int p2), .val (.int 1), .val (.int 115), .val (.ref w_SPACE), .val (.int (p2 &&& (255 : Int32))), .val (.int 1), .unset] [])) _
    refine XS.iconst X5.here hx rfl (hb hby at_79) ?_
    show Steps p.tables e below (T5.setTop (mkF m 80 #[.val (.int p1), .val (.int p2), .val (.int 1), .val (.int 115), .val (.ref w_SPACE), .val (.int (p2 &&& (255 : Int32))), .val (.int 1), .unset] [(.int 1)])) _
    refine XS.goto X5.here hx rfl (pc0 := 80) (pc' := 84) rfl (hb hby at_80) (by decide) (by decide) ?_
    show Steps p.tables e below (T5.setTop (mkF m 84 #[.val (.int p1), .val (.int p2), .val (.int 1), .val (.int 115), .val (.ref w_SPACE), .val (.int (p2 &&& (255 : Int32))), .val (.int 1), .unset] [(.int 1)])) _
    refine XS.istore X5.here hx rfl (hb hby at_84) rfl (l' := #[.val (.int p1), .val (.int p2), .val (.int 1), .val (.int 115), .val (.ref w_SPACE), .val (.int (p2 &&& (255 : Int32))), .val (.int 1), .val (.int 1)]) rfl ?_
    show Steps p.tables e below (T5.setTop (mkF m 86 #[.val (.int p1), .val (.int p2), .val (.int 1), .val (.int 115), .val (.ref w_SPACE), .val (.int (p2 &&& (255 : Int32))), .val (.int 1), .val (.int 1)] [])) _
    refine XS.iload X5.here hx rfl (hb hby at_86) rfl ?_
    show Steps p.tables e below (T5.setTop (mkF m 88 #[.val (.int p1), .val (.int p2), .val (.int 1), .val (.int 115), .val (.ref w_SPACE), .val (.int (p2 &&& (255 : Int32))), .val (.int 1), .val (.int 1)] [(.int 1)])) _
    refine XS.ifNo X5.here hx rfl (hb hby at_88) rfl ((if0 _ _).trans (feq (by decide : ¬ ((1 : Int32) = (0 : Int32)))).1) ?_
    show Steps p.tables e below (T5.setTop (mkF m 91 #[.val (.int p1), .val (.int p2), .val (.int 1), .val (.int 115), .val (.ref w_SPACE), .val (.int (p2 &&& (255 : Int32))), .val (.int 1), .val (.int 1)] [])) _
    refine XS.iload X5.here hx rfl (hb hby at_91) rfl ?_
    show Steps p.tables e below (T5.setTop (mkF m 93 #[.val (.int p1), .val (.int p2), .val (.int 1), .val (.int 115), .val (.ref w_SPACE), .val (.int (p2 &&& (255 : Int32))), .val (.int 1), .val (.int 1)] [(.int 1)])) _
    refine XS.ifNo X5.here hx rfl (hb hby at_93) rfl ((if0 _ _).trans (feq (by decide : ¬ ((1 : Int32) = (0 : Int32)))).1) ?_
    show Steps p.tables e below (T5.setTop (mkF m 96 #[.val (.int p1), .val (.int p2), .val (.int 1), .val (.int 115), .val (.ref w_SPACE), .val (.int (p2 &&& (255 : Int32))), .val (.int 1), .val (.int 1)] [])) _
    refine XS.iconst X5.here hx rfl (hb hby at_96) ?_
    show Steps p.tables e below (T5.setTop (mkF m 97 #[.val (.int p1), .val (.int p2), .val (.int 1), .val (.int 115), .val (.ref w_SPACE), .val (.int (p2 &&& (255 : Int32))), .val (.int 1), .val (.int 1)] [(.int 1)])) _
    refine XS.goto X5.here hx rfl (pc0 := 97) (pc' := 101) rfl (hb hby at_97) (by decide) (by decide) ?_
    show Steps p.tables e below (T5.setTop (mkF m 101 #[.val (.int p1), .val (.int p2), .val (.int 1), .val (.int 115), .val (.ref w_SPACE), .val (.int (p2 &&& (255 : Int32))), .val (.int 1), .val (.int 1)] [(.int 1)])) _
    exact retN X5 hx (t := .boolean) Bd.returns (by simp) (hb hby at_101) hr
  · show Q0_k1 Z p1 p2 w_SPACE r_SPACE k_SPACE h0 n0 _ T5.heap _
    rw [e5]
    exact ⟨rfl, N5, rfl⟩
def Q4_r_WORD_0_8_x_None_48 (Z : State) (r_WORD : Addr) (x : Int32) (k_WORD : ClassId) (h0 : Heap) (n0 : Nat) (v : Option Value) (h : Heap) (L : List Loc) : Prop := v = some (.int (-1)) ∧ Fr n0 L ∧ h = h0
set_option maxRecDepth 65536 in
set_option maxHeartbeats 40000000 in
theorem rm4_r_WORD_0_8_x_None_48 (l : Launch) (Z : State) (a0 : Array Value) (hw : ∀ d ∈ tables_1, d.before a0 Z = true) (ws : List Jvm.Cond) (r_WORD : Addr) (x : Int32) (k_WORD : ClassId) (h0 : Heap) (n0 : Nat) (Z0 : n0 ≤ h0.size) (hhi_x : x < (48 : Int32)) (V_r_WORD : Arv Z h0 r_WORD k_WORD .int (8 : Int32) [(.int 48), (.int 57), (.int 65), (.int 90), (.int 95), (.int 95), (.int 97), (.int 122)] (.int (0 : Int32))) :
    MetFree l (⟨"java/util/Arrays", "binarySearch0", "([IIII)I"⟩ : MethodName) (head1 (Jvm.Cond.code (⟨"java/util/Arrays", "binarySearch0", "([IIII)I"⟩ : MethodName) jdk_65_method_59_code 8 (some .int) :: ws) ({ frames := 0, cells := 0, slots := 0, locals := 0 } : Room)) (fun a U => a = #[(.ref r_WORD), (.int 0), (.int 8), (.int x)] ∧ Z.Warmed39 U.vm ∧ U.heap = h0) (fun _ _ _ _ _ => True) (fun _ U o U' => ∃ v L, o = .returned v ∧ Q4_r_WORD_0_8_x_None_48 Z r_WORD x k_WORD h0 n0 v U'.heap L ∧ FrameEnd U o U' L ({ frames := 0, cells := 0, slots := 0, locals := 0 } : Room).cells ({ frames := 0, cells := 0, slots := 0, locals := 0 } : Room).slots) := by
  refine MetFree.of_bodySF (plainFor_of_name pn_4) hisR ?_
  intro p e s m args below meth c s₁ Bd hml0 hP hK
  obtain ⟨rfl, hZ, hh⟩ := hP
  have hx := Bd.exec
  have hby := Bd.bytes
  have hml : c.maxLocals = 8 := hml0
  have hown : s.vm.findClass "java/util/Arrays" = some m.cls := findClass_of_methodNamed Bd.named
  have hnm := (name_of_methodNamed Bd.named Bd.method).1
  have X0 : Stand p l e ({ frames := 0, cells := 0, slots := 0, locals := 0 } : Room) s m #[(.ref r_WORD), (.int 0), (.int 8), (.int x)] below meth c s₁ [] 0 0 := Stand.of_body Bd
  have e0 : s₁.heap = h0 := by rw [← hh, Bd.state]; rfl
  have N0 := Fr.nil n0
  have pre0 : ∀ t, Steps p.tables e below (s₁.setTop (mkF m 0 #[.val (.ref r_WORD), .val (.int 0), .val (.int 8), .val (.int x), .unset, .unset, .unset, .unset] [])) t → Steps p.tables e below (s₁.setTop (entryFrame m #[(.ref r_WORD), (.int 0), (.int 8), (.int x)] 8)) t := fun t k => castTop (by first | (simp [entryFrame, mkF, argsToLocals, Value.category]; done) | rfl) k
  obtain ⟨fs, hr, hrun, hended, hW, hsame⟩ := X0.leave (v := some (.int (-1))) (fun h => by rw [Bd.returns] at h; cases h)
  refine ⟨_, _, pre0 _ ?_, hrun, hended, _, _, rfl, ?_, ⟨_, rfl⟩, hW, hsame.mono (by decide) (by decide)⟩
  · show Steps p.tables e below (s₁.setTop (mkF m 0 #[.val (.ref r_WORD), .val (.int 0), .val (.int 8), .val (.int x), .unset, .unset, .unset, .unset] [])) _
    refine XS.iloadN X0.here hx rfl (hb hby d4_0) rfl ?_
    show Steps p.tables e below (s₁.setTop (mkF m 1 #[.val (.ref r_WORD), .val (.int 0), .val (.int 8), .val (.int x), .unset, .unset, .unset, .unset] [(.int 0)])) _
    refine XS.istore X0.here hx rfl (hb hby d4_1) rfl (l' := #[.val (.ref r_WORD), .val (.int 0), .val (.int 8), .val (.int x), .val (.int 0), .unset, .unset, .unset]) rfl ?_
    show Steps p.tables e below (s₁.setTop (mkF m 3 #[.val (.ref r_WORD), .val (.int 0), .val (.int 8), .val (.int x), .val (.int 0), .unset, .unset, .unset] [])) _
    refine XS.iloadN X0.here hx rfl (hb hby d4_3) rfl ?_
    show Steps p.tables e below (s₁.setTop (mkF m 4 #[.val (.ref r_WORD), .val (.int 0), .val (.int 8), .val (.int x), .val (.int 0), .unset, .unset, .unset] [(.int 8)])) _
    refine XS.iconst X0.here hx rfl (hb hby d4_4) ?_
    show Steps p.tables e below (s₁.setTop (mkF m 5 #[.val (.ref r_WORD), .val (.int 0), .val (.int 8), .val (.int x), .val (.int 0), .unset, .unset, .unset] [(.int 1), (.int 8)])) _
    refine XS.isub X0.here hx rfl (hb hby d4_5) rfl ?_
    show Steps p.tables e below (s₁.setTop (mkF m 6 #[.val (.ref r_WORD), .val (.int 0), .val (.int 8), .val (.int x), .val (.int 0), .unset, .unset, .unset] [(.int ((8 : Int32) - (1 : Int32)))])) _
    rw [(by decide : ((8 : Int32) - (1 : Int32)) = (7 : Int32))]
    show Steps p.tables e below (s₁.setTop (mkF m 6 #[.val (.ref r_WORD), .val (.int 0), .val (.int 8), .val (.int x), .val (.int 0), .unset, .unset, .unset] [(.int 7)])) _
    refine XS.istore X0.here hx rfl (hb hby d4_6) rfl (l' := #[.val (.ref r_WORD), .val (.int 0), .val (.int 8), .val (.int x), .val (.int 0), .val (.int 7), .unset, .unset]) rfl ?_
    show Steps p.tables e below (s₁.setTop (mkF m 8 #[.val (.ref r_WORD), .val (.int 0), .val (.int 8), .val (.int x), .val (.int 0), .val (.int 7), .unset, .unset] [])) _
    refine tnGu r_WORD (0 : Int32) (8 : Int32) x (0 : Int32) (7 : Int32) (3 : Int32) k_WORD (8 : Int32) [(.int 48), (.int 57), (.int 65), (.int 90), (.int 95), (.int 95), (.int 97), (.int 122)] (.int (0 : Int32)) (90 : Int32) (2 : Int32) X0 hx hZ hby e0 (by decide) (by decide) V_r_WORD ⟨by decide, by decide⟩ rfl (own_ngt hhi_x (by decide)) (own_lt hhi_x (by decide)) (by decide) _ ?_
    show Steps p.tables e below (s₁.setTop (mkF m 8 #[.val (.ref r_WORD), .val (.int 0), .val (.int 8), .val (.int x), .val (.int 0), .val (.int 2), .val (.int 3), .val (.int 90)] [])) _
    refine tnGv r_WORD (0 : Int32) (8 : Int32) x (0 : Int32) (2 : Int32) (3 : Int32) (90 : Int32) (1 : Int32) k_WORD (8 : Int32) [(.int 48), (.int 57), (.int 65), (.int 90), (.int 95), (.int 95), (.int 97), (.int 122)] (.int (0 : Int32)) (57 : Int32) (0 : Int32) X0 hx hZ hby e0 (by decide) (by decide) V_r_WORD ⟨by decide, by decide⟩ rfl (own_ngt hhi_x (by decide)) (own_lt hhi_x (by decide)) (by decide) _ ?_
    show Steps p.tables e below (s₁.setTop (mkF m 8 #[.val (.ref r_WORD), .val (.int 0), .val (.int 8), .val (.int x), .val (.int 0), .val (.int 0), .val (.int 1), .val (.int 57)] [])) _
    refine tnGv r_WORD (0 : Int32) (8 : Int32) x (0 : Int32) (0 : Int32) (1 : Int32) (57 : Int32) (0 : Int32) k_WORD (8 : Int32) [(.int 48), (.int 57), (.int 65), (.int 90), (.int 95), (.int 95), (.int 97), (.int 122)] (.int (0 : Int32)) (48 : Int32) (-1 : Int32) X0 hx hZ hby e0 (by decide) (by decide) V_r_WORD ⟨by decide, by decide⟩ rfl (own_ngt hhi_x (by decide)) (own_lt hhi_x (by decide)) (by decide) _ ?_
    show Steps p.tables e below (s₁.setTop (mkF m 8 #[.val (.ref r_WORD), .val (.int 0), .val (.int 8), .val (.int x), .val (.int 0), .val (.int (-1)), .val (.int 0), .val (.int 48)] [])) _
    refine XS.iload X0.here hx rfl (hb hby d4_8) rfl ?_
    show Steps p.tables e below (s₁.setTop (mkF m 10 #[.val (.ref r_WORD), .val (.int 0), .val (.int 8), .val (.int x), .val (.int 0), .val (.int (-1)), .val (.int 0), .val (.int 48)] [(.int 0)])) _
    refine XS.iload X0.here hx rfl (hb hby d4_10) rfl ?_
    show Steps p.tables e below (s₁.setTop (mkF m 12 #[.val (.ref r_WORD), .val (.int 0), .val (.int 8), .val (.int x), .val (.int 0), .val (.int (-1)), .val (.int 0), .val (.int 48)] [(.int (-1)), (.int 0)])) _
    refine XS.icmpYes X0.here hx rfl (pc0 := 12) (pc' := 66) rfl (hb hby d4_12) rfl (tlt (by decide : (-1 : Int32) < (0 : Int32))).2.2.1 (by decide) (by decide) ?_
    show Steps p.tables e below (s₁.setTop (mkF m 66 #[.val (.ref r_WORD), .val (.int 0), .val (.int 8), .val (.int x), .val (.int 0), .val (.int (-1)), .val (.int 0), .val (.int 48)] [])) _
    refine XS.iload X0.here hx rfl (hb hby d4_66) rfl ?_
    show Steps p.tables e below (s₁.setTop (mkF m 68 #[.val (.ref r_WORD), .val (.int 0), .val (.int 8), .val (.int x), .val (.int 0), .val (.int (-1)), .val (.int 0), .val (.int 48)] [(.int 0)])) _
    refine XS.iconst X0.here hx rfl (hb hby d4_68) ?_
    show Steps p.tables e below (s₁.setTop (mkF m 69 #[.val (.ref r_WORD), .val (.int 0), .val (.int 8), .val (.int x), .val (.int 0), .val (.int (-1)), .val (.int 0), .val (.int 48)] [(.int 1), (.int 0)])) _
    refine XS.iadd X0.here hx rfl (hb hby d4_69) rfl ?_
    show Steps p.tables e below (s₁.setTop (mkF m 70 #[.val (.ref r_WORD), .val (.int 0), .val (.int 8), .val (.int x), .val (.int 0), .val (.int (-1)), .val (.int 0), .val (.int 48)] [(.int ((0 : Int32) + (1 : Int32)))])) _
    rw [(by decide : ((0 : Int32) + (1 : Int32)) = (1 : Int32))]
    show Steps p.tables e below (s₁.setTop (mkF m 70 #[.val (.ref r_WORD), .val (.int 0), .val (.int 8), .val (.int x), .val (.int 0), .val (.int (-1)), .val (.int 0), .val (.int 48)] [(.int 1)])) _
    refine XS.ineg X0.here hx rfl (hb hby d4_70) rfl ?_
    show Steps p.tables e below (s₁.setTop (mkF m 71 #[.val (.ref r_WORD), .val (.int 0), .val (.int 8), .val (.int x), .val (.int 0), .val (.int (-1)), .val (.int 0), .val (.int 48)] [(.int (-(1 : Int32)))])) _
    rw [(by decide : (-(1 : Int32)) = (-1 : Int32))]
    show Steps p.tables e below (s₁.setTop (mkF m 71 #[.val (.ref r_WORD), .val (.int 0), .val (.int 8), .val (.int x), .val (.int 0), .val (.int (-1)), .val (.int 0), .val (.int 48)] [(.int (-1))])) _
    exact retI X0 hx Bd.returns (hb hby d4_71) hr
  · show Q4_r_WORD_0_8_x_None_48 Z r_WORD x k_WORD h0 n0 _ s₁.heap _
    rw [e0]
    exact ⟨rfl, N0, rfl⟩
def Q3_r_WORD_x_None_48 (Z : State) (r_WORD : Addr) (x : Int32) (k_WORD : ClassId) (h0 : Heap) (n0 : Nat) (v : Option Value) (h : Heap) (L : List Loc) : Prop := v = some (.int (-1)) ∧ Fr n0 L ∧ h = h0
set_option maxRecDepth 65536 in
set_option maxHeartbeats 40000000 in
theorem rm3_r_WORD_x_None_48 (l : Launch) (Z : State) (a0 : Array Value) (hw : ∀ d ∈ tables_1, d.before a0 Z = true) (ws : List Jvm.Cond) (r_WORD : Addr) (x : Int32) (k_WORD : ClassId) (h0 : Heap) (n0 : Nat) (Z0 : n0 ≤ h0.size) (V_r_WORD : Arv Z h0 r_WORD k_WORD .int (8 : Int32) [(.int 48), (.int 57), (.int 65), (.int 90), (.int 95), (.int 95), (.int 97), (.int 122)] (.int (0 : Int32))) (hhi_x : x < (48 : Int32)) :
    MetFree l (⟨"java/util/Arrays", "binarySearch", "([II)I"⟩ : MethodName) (head1 (Jvm.Cond.code (⟨"java/util/Arrays", "binarySearch", "([II)I"⟩ : MethodName) jdk_65_method_57_code 2 (some .int) :: ws) ({ frames := 1, cells := 0, slots := 0, locals := 19 } : Room)) (fun a U => a = #[(.ref r_WORD), (.int x)] ∧ Z.Warmed39 U.vm ∧ U.heap = h0) (fun _ _ _ _ _ => True) (fun _ U o U' => ∃ v L, o = .returned v ∧ Q3_r_WORD_x_None_48 Z r_WORD x k_WORD h0 n0 v U'.heap L ∧ FrameEnd U o U' L ({ frames := 1, cells := 0, slots := 0, locals := 19 } : Room).cells ({ frames := 1, cells := 0, slots := 0, locals := 19 } : Room).slots) := by
  refine MetFree.of_bodySF (plainFor_of_name pn_3) hisR ?_
  intro p e s m args below meth c s₁ Bd hml0 hP hK
  obtain ⟨rfl, hZ, hh⟩ := hP
  have hx := Bd.exec
  have hby := Bd.bytes
  have hml : c.maxLocals = 2 := hml0
  have hown : s.vm.findClass "java/util/Arrays" = some m.cls := findClass_of_methodNamed Bd.named
  have hnm := (name_of_methodNamed Bd.named Bd.method).1
  have X0 : Stand p l e ({ frames := 1, cells := 0, slots := 0, locals := 19 } : Room) s m #[(.ref r_WORD), (.int x)] below meth c s₁ [] 0 0 := Stand.of_body Bd
  have e0 : s₁.heap = h0 := by rw [← hh, Bd.state]; rfl
  have N0 := Fr.nil n0
  have pre0 : ∀ t, Steps p.tables e below (s₁.setTop (mkF m 0 #[.val (.ref r_WORD), .val (.int x)] [])) t → Steps p.tables e below (s₁.setTop (entryFrame m #[(.ref r_WORD), (.int x)] 2)) t := fun t k => castTop (by first | (simp [entryFrame, mkF, argsToLocals, Value.category]; done) | rfl) k
  obtain ⟨_, _, ⟨T1, L1, k1, n1⟩, -, X1, ⟨Lc1, hQ1, l1, y1, z1⟩, st1⟩ := Jvm.LawKit.callS X0 hx (y := (⟨"java/util/Arrays", "binarySearch0", "([IIII)I"⟩ : MethodName)) hown (mvT hZ (hw _ (List.mem_of_getElem? (i := 19) rfl))) (mvT hZ (hw _ (List.mem_of_getElem? (i := 20) rfl))) (mvT hZ (hw _ (List.mem_of_getElem? (i := 17) rfl))) (mvT hZ (hw _ (List.mem_of_getElem? (i := 21) rfl))) (by decide) (backOf (W := 0) (rm4_r_WORD_0_8_x_None_48 l Z a0 hw [] r_WORD x k_WORD h0 n0 Z0 hhi_x V_r_WORD) hZ (hw _ (List.mem_of_getElem? (i := 21) rfl)) (hw _ (List.mem_of_getElem? (i := 17) rfl)) (by decide) (by decide)) (g := (mkF m 5 #[.val (.ref r_WORD), .val (.int x)] [(.int x), (.int 8), (.int 0), (.ref r_WORD)])) rfl (by rw [hml]; rfl) (argsL := [(.ref r_WORD), (.int 0), (.int 8), (.int x)]) (rest := []) (lenOf pd___IIII_I rfl) rfl (by show 2 * 0 + _ ≤ _; exact Nat.le_of_eq rfl) (hb hby d3_5) (fun _ _ => ⟨rfl, e0, (by decide : 0 + 0 ≤ _), (by decide : 0 + 0 ≤ _)⟩)
  dsimp only [Pt.U, Pt.locs, Pt.cells, Pt.slots] at X1 l1 y1 z1 st1 hQ1
  subst l1 y1 z1
  obtain ⟨rfl, N1q, e1⟩ := hQ1
  have N1 := Fr.app N0 N1q
  obtain ⟨fs, hr, hrun, hended, hW, hsame⟩ := X1.leave (v := some (.int (-1))) (fun h => by rw [Bd.returns] at h; cases h)
  refine ⟨_, _, pre0 _ ?_, hrun, hended, _, _, rfl, ?_, ⟨_, rfl⟩, hW, hsame.mono (by decide) (by decide)⟩
  · show Steps p.tables e below (s₁.setTop (mkF m 0 #[.val (.ref r_WORD), .val (.int x)] [])) _
    refine XS.aloadN X0.here hx rfl (hb hby d3_0) rfl rfl ?_
    show Steps p.tables e below (s₁.setTop (mkF m 1 #[.val (.ref r_WORD), .val (.int x)] [(.ref r_WORD)])) _
    refine XS.iconst X0.here hx rfl (hb hby d3_1) ?_
    show Steps p.tables e below (s₁.setTop (mkF m 2 #[.val (.ref r_WORD), .val (.int x)] [(.int 0), (.ref r_WORD)])) _
    refine XS.aloadN X0.here hx rfl (hb hby d3_2) rfl rfl ?_
    show Steps p.tables e below (s₁.setTop (mkF m 3 #[.val (.ref r_WORD), .val (.int x)] [(.ref r_WORD), (.int 0), (.ref r_WORD)])) _
    refine own_lenz X0 hx hZ e0 V_r_WORD (g := (mkF m 3 #[.val (.ref r_WORD), .val (.int x)] [(.ref r_WORD), (.int 0), (.ref r_WORD)])) rfl rfl (hb hby d3_3) _ ?_
    show Steps p.tables e below (s₁.setTop (mkF m 4 #[.val (.ref r_WORD), .val (.int x)] [(.int 8), (.int 0), (.ref r_WORD)])) _
    refine XS.iloadN X0.here hx rfl (hb hby d3_4) rfl ?_
    show Steps p.tables e below (s₁.setTop (mkF m 5 #[.val (.ref r_WORD), .val (.int x)] [(.int x), (.int 8), (.int 0), (.ref r_WORD)])) _
    refine st1 _ ?_
    show Steps p.tables e below (T1.setTop (mkF m 8 #[.val (.ref r_WORD), .val (.int x)] [(.int (-1))])) _
    exact retI X1 hx Bd.returns (hb hby d3_8) hr
  · show Q3_r_WORD_x_None_48 Z r_WORD x k_WORD h0 n0 _ T1.heap _
    rw [e1]
    exact ⟨rfl, N1, rfl⟩
def Q2_w_WORD_x_None_48_all_WORD (Z : State) (w_WORD : Addr) (x : Int32) (r_WORD : Addr) (k_WORD : ClassId) (h0 : Heap) (n0 : Nat) (v : Option Value) (h : Heap) (L : List Loc) : Prop := v = some (.int (own_w x)) ∧ Fr n0 L ∧ h = h0
set_option maxRecDepth 65536 in
set_option maxHeartbeats 40000000 in
theorem rm2_w_WORD_x_None_48_all_WORD (l : Launch) (Z : State) (a0 : Array Value) (hw : ∀ d ∈ tables_1, d.before a0 Z = true) (ws : List Jvm.Cond) (w_WORD : Addr) (x : Int32) (r_WORD : Addr) (k_WORD : ClassId) (h0 : Heap) (n0 : Nat) (Z0 : n0 ≤ h0.size) (F_ranges_w_WORD : Fld Z h0 w_WORD "com/example/termwell/termwell/core/text/CodePointSet" "ranges" "[I" (.ref r_WORD)) (V_r_WORD : Arv Z h0 r_WORD k_WORD .int (8 : Int32) [(.int 48), (.int 57), (.int 65), (.int 90), (.int 95), (.int 95), (.int 97), (.int 122)] (.int (0 : Int32))) (hhi_x : x < (48 : Int32)) (hret : (own_w x) = (0 : Int32)) :
    MetFree l (⟨"com/example/termwell/termwell/core/text/CodePointSet", "contains", "(I)Z"⟩ : MethodName) (head1 (Jvm.Cond.code (⟨"com/example/termwell/termwell/core/text/CodePointSet", "contains", "(I)Z"⟩ : MethodName) prog_19_method_4_code 3 (some .boolean) :: ws) ({ frames := 2, cells := 0, slots := 0, locals := 32 } : Room)) (fun a U => a = #[(.ref w_WORD), (.int x)] ∧ Z.Warmed39 U.vm ∧ U.heap = h0) (fun _ _ _ _ _ => True) (fun _ U o U' => ∃ v L, o = .returned v ∧ Q2_w_WORD_x_None_48_all_WORD Z w_WORD x r_WORD k_WORD h0 n0 v U'.heap L ∧ FrameEnd U o U' L ({ frames := 2, cells := 0, slots := 0, locals := 32 } : Room).cells ({ frames := 2, cells := 0, slots := 0, locals := 32 } : Room).slots) := by
  refine MetFree.of_bodySF (plainFor_of_name pn_2) hisR ?_
  intro p e s m args below meth c s₁ Bd hml0 hP hK
  obtain ⟨rfl, hZ, hh⟩ := hP
  have hx := Bd.exec
  have hby := Bd.bytes
  have hml : c.maxLocals = 3 := hml0
  have hown : s.vm.findClass "com/example/termwell/termwell/core/text/CodePointSet" = some m.cls := findClass_of_methodNamed Bd.named
  have hnm := (name_of_methodNamed Bd.named Bd.method).1
  have X0 : Stand p l e ({ frames := 2, cells := 0, slots := 0, locals := 32 } : Room) s m #[(.ref w_WORD), (.int x)] below meth c s₁ [] 0 0 := Stand.of_body Bd
  have e0 : s₁.heap = h0 := by rw [← hh, Bd.state]; rfl
  have N0 := Fr.nil n0
  have pre0 : ∀ t, Steps p.tables e below (s₁.setTop (mkF m 0 #[.val (.ref w_WORD), .val (.int x), .unset] [])) t → Steps p.tables e below (s₁.setTop (entryFrame m #[(.ref w_WORD), (.int x)] 3)) t := fun t k => castTop (by first | (simp [entryFrame, mkF, argsToLocals, Value.category]; done) | rfl) k
  obtain ⟨T1, X1, e1, st1⟩ := getF X0 hx hZ hown (host := "") (Or.inl (hw _ (List.mem_of_getElem? (i := 13) rfl))) Via.refl e0 F_ranges_w_WORD (g := (mkF m 1 #[.val (.ref w_WORD), .val (.int x), .unset] [(.ref w_WORD)])) rfl rfl (hb hby d2_1)
  obtain ⟨_, _, ⟨T2, L2, k2, n2⟩, -, X2, ⟨Lc2, hQ2, l2, y2, z2⟩, st2⟩ := Jvm.LawKit.callS X1 hx (y := (⟨"java/util/Arrays", "binarySearch", "([II)I"⟩ : MethodName)) hown (mvT hZ (hw _ (List.mem_of_getElem? (i := 15) rfl))) (mvT hZ (hw _ (List.mem_of_getElem? (i := 16) rfl))) (mvT hZ (hw _ (List.mem_of_getElem? (i := 17) rfl))) (mvT hZ (hw _ (List.mem_of_getElem? (i := 18) rfl))) (by decide) (backOf (W := 0) (rm3_r_WORD_x_None_48 l Z a0 hw [] r_WORD x k_WORD h0 n0 Z0 V_r_WORD hhi_x) hZ (hw _ (List.mem_of_getElem? (i := 18) rfl)) (hw _ (List.mem_of_getElem? (i := 17) rfl)) (by decide) (by decide)) (g := (mkF m 5 #[.val (.ref w_WORD), .val (.int x), .unset] [(.int x), (.ref r_WORD)])) rfl (by rw [hml]; rfl) (argsL := [(.ref r_WORD), (.int x)]) (rest := []) (lenOf pd___II_I rfl) rfl (by show 2 * 0 + _ ≤ _; exact Nat.le_of_eq rfl) (hb hby d2_5) (fun _ _ => ⟨rfl, e1, (by decide : 0 + 0 ≤ _), (by decide : 0 + 0 ≤ _)⟩)
  dsimp only [Pt.U, Pt.locs, Pt.cells, Pt.slots] at X2 l2 y2 z2 st2 hQ2
  subst l2 y2 z2
  obtain ⟨rfl, N2q, e2⟩ := hQ2
  have N2 := Fr.app N0 N2q
  obtain ⟨fs, hr, hrun, hended, hW, hsame⟩ := X2.leave (v := some (.int 0)) (fun h => by rw [Bd.returns] at h; cases h)
  refine ⟨_, _, pre0 _ ?_, hrun, hended, _, _, rfl, ?_, ⟨_, rfl⟩, hW, hsame.mono (by decide) (by decide)⟩
  · show Steps p.tables e below (s₁.setTop (mkF m 0 #[.val (.ref w_WORD), .val (.int x), .unset] [])) _
    refine XS.aloadN X0.here hx rfl (hb hby d2_0) rfl rfl ?_
    show Steps p.tables e below (s₁.setTop (mkF m 1 #[.val (.ref w_WORD), .val (.int x), .unset] [(.ref w_WORD)])) _
    refine st1 _ ?_
    show Steps p.tables e below (T1.setTop (mkF m 4 #[.val (.ref w_WORD), .val (.int x), .unset] [(.ref r_WORD)])) _
    refine XS.iloadN X1.here hx rfl (hb hby d2_4) rfl ?_
    show Steps p.tables e below (T1.setTop (mkF m 5 #[.val (.ref w_WORD), .val (.int x), .unset] [(.int x), (.ref r_WORD)])) _
    refine st2 _ ?_
    show Steps p.tables e below (T2.setTop (mkF m 8 #[.val (.ref w_WORD), .val (.int x), .unset] [(.int (-1))])) _
    refine XS.istoreN X2.here hx rfl (hb hby d2_8) rfl (l' := #[.val (.ref w_WORD), .val (.int x), .val (.int (-1))]) rfl ?_
    show Steps p.tables e below (T2.setTop (mkF m 9 #[.val (.ref w_WORD), .val (.int x), .val (.int (-1))] [])) _
    refine XS.iloadN X2.here hx rfl (hb hby d2_9) rfl ?_
    show Steps p.tables e below (T2.setTop (mkF m 10 #[.val (.ref w_WORD), .val (.int x), .val (.int (-1))] [(.int (-1))])) _
    refine XS.ifNo X2.here hx rfl (hb hby d2_10) rfl ((if0 _ _).trans (tlt (by decide : (-1 : Int32) < (0 : Int32))).2.1) ?_
    show Steps p.tables e below (T2.setTop (mkF m 13 #[.val (.ref w_WORD), .val (.int x), .val (.int (-1))] [])) _
    refine XS.iloadN X2.here hx rfl (hb hby d2_13) rfl ?_
    show Steps p.tables e below (T2.setTop (mkF m 14 #[.val (.ref w_WORD), .val (.int x), .val (.int (-1))] [(.int (-1))])) _
    refine XS.ineg X2.here hx rfl (hb hby d2_14) rfl ?_
    show Steps p.tables e below (T2.setTop (mkF m 15 #[.val (.ref w_WORD), .val (.int x), .val (.int (-1))] [(.int (-(-1 : Int32)))])) _
    rw [(by decide : (-(-1 : Int32)) = (1 : Int32))]
    show Steps p.tables e below (T2.setTop (mkF m 15 #[.val (.ref w_WORD), .val (.int x), .val (.int (-1))] [(.int 1)])) _
    refine XS.iconst X2.here hx rfl (hb hby d2_15) ?_
    show Steps p.tables e below (T2.setTop (mkF m 16 #[.val (.ref w_WORD), .val (.int x), .val (.int (-1))] [(.int 1), (.int 1)])) _
    refine XS.isub X2.here hx rfl (hb hby d2_16) rfl ?_
    show Steps p.tables e below (T2.setTop (mkF m 17 #[.val (.ref w_WORD), .val (.int x), .val (.int (-1))] [(.int ((1 : Int32) - (1 : Int32)))])) _
    rw [(by decide : ((1 : Int32) - (1 : Int32)) = (0 : Int32))]
    show Steps p.tables e below (T2.setTop (mkF m 17 #[.val (.ref w_WORD), .val (.int x), .val (.int (-1))] [(.int 0)])) _
    refine XS.iconst X2.here hx rfl (hb hby d2_17) ?_
    show Steps p.tables e below (T2.setTop (mkF m 18 #[.val (.ref w_WORD), .val (.int x), .val (.int (-1))] [(.int 2), (.int 0)])) _
    refine iremM X2 hx rfl (hb hby d2_18) rfl (by decide) ?_
    show Steps p.tables e below (T2.setTop (mkF m 19 #[.val (.ref w_WORD), .val (.int x), .val (.int (-1))] [(.int ((0 : Int32) % (2 : Int32)))])) _
    rw [(by decide : ((0 : Int32) % (2 : Int32)) = (0 : Int32))]
    show Steps p.tables e below (T2.setTop (mkF m 19 #[.val (.ref w_WORD), .val (.int x), .val (.int (-1))] [(.int 0)])) _
    refine XS.iconst X2.here hx rfl (hb hby d2_19) ?_
    show Steps p.tables e below (T2.setTop (mkF m 20 #[.val (.ref w_WORD), .val (.int x), .val (.int (-1))] [(.int 1), (.int 0)])) _
    refine XS.icmpYes X2.here hx rfl (pc0 := 20) (pc' := 27) rfl (hb hby d2_20) rfl (feq (by decide : ¬ ((0 : Int32) = (1 : Int32)))).2 (by decide) (by decide) ?_
    show Steps p.tables e below (T2.setTop (mkF m 27 #[.val (.ref w_WORD), .val (.int x), .val (.int (-1))] [])) _
    refine XS.iconst X2.here hx rfl (hb hby d2_27) ?_
    show Steps p.tables e below (T2.setTop (mkF m 28 #[.val (.ref w_WORD), .val (.int x), .val (.int (-1))] [(.int 0)])) _
    exact retN X2 hx (t := .boolean) Bd.returns (by simp) (hb hby d2_28) hr
  · show Q2_w_WORD_x_None_48_all_WORD Z w_WORD x r_WORD k_WORD h0 n0 _ T2.heap _
    rw [e2]
    exact ⟨(by rw [hret]), N2, rfl⟩
def Q4_r_WORD_0_8_48 (Z : State) (r_WORD : Addr) (k_WORD : ClassId) (h0 : Heap) (n0 : Nat) (v : Option Value) (h : Heap) (L : List Loc) : Prop := v = some (.int 0) ∧ Fr n0 L ∧ h = h0
set_option maxRecDepth 65536 in
set_option maxHeartbeats 40000000 in
theorem rm4_r_WORD_0_8_48 (l : Launch) (Z : State) (a0 : Array Value) (hw : ∀ d ∈ tables_1, d.before a0 Z = true) (ws : List Jvm.Cond) (r_WORD : Addr) (k_WORD : ClassId) (h0 : Heap) (n0 : Nat) (Z0 : n0 ≤ h0.size) (V_r_WORD : Arv Z h0 r_WORD k_WORD .int (8 : Int32) [(.int 48), (.int 57), (.int 65), (.int 90), (.int 95), (.int 95), (.int 97), (.int 122)] (.int (0 : Int32))) :
    MetFree l (⟨"java/util/Arrays", "binarySearch0", "([IIII)I"⟩ : MethodName) (head1 (Jvm.Cond.code (⟨"java/util/Arrays", "binarySearch0", "([IIII)I"⟩ : MethodName) jdk_65_method_59_code 8 (some .int) :: ws) ({ frames := 0, cells := 0, slots := 0, locals := 0 } : Room)) (fun a U => a = #[(.ref r_WORD), (.int 0), (.int 8), (.int 48)] ∧ Z.Warmed39 U.vm ∧ U.heap = h0) (fun _ _ _ _ _ => True) (fun _ U o U' => ∃ v L, o = .returned v ∧ Q4_r_WORD_0_8_48 Z r_WORD k_WORD h0 n0 v U'.heap L ∧ FrameEnd U o U' L ({ frames := 0, cells := 0, slots := 0, locals := 0 } : Room).cells ({ frames := 0, cells := 0, slots := 0, locals := 0 } : Room).slots) := by
  refine MetFree.of_bodySF (plainFor_of_name pn_4) hisR ?_
  intro p e s m args below meth c s₁ Bd hml0 hP hK
  obtain ⟨rfl, hZ, hh⟩ := hP
  have hx := Bd.exec
  have hby := Bd.bytes
  have hml : c.maxLocals = 8 := hml0
  have hown : s.vm.findClass "java/util/Arrays" = some m.cls := findClass_of_methodNamed Bd.named
  have hnm := (name_of_methodNamed Bd.named Bd.method).1
  have X0 : Stand p l e ({ frames := 0, cells := 0, slots := 0, locals := 0 } : Room) s m #[(.ref r_WORD), (.int 0), (.int 8), (.int 48)] below meth c s₁ [] 0 0 := Stand.of_body Bd
  have e0 : s₁.heap = h0 := by rw [← hh, Bd.state]; rfl
  have N0 := Fr.nil n0
  have pre0 : ∀ t, Steps p.tables e below (s₁.setTop (mkF m 0 #[.val (.ref r_WORD), .val (.int 0), .val (.int 8), .val (.int 48), .unset, .unset, .unset, .unset] [])) t → Steps p.tables e below (s₁.setTop (entryFrame m #[(.ref r_WORD), (.int 0), (.int 8), (.int 48)] 8)) t := fun t k => castTop (by first | (simp [entryFrame, mkF, argsToLocals, Value.category]; done) | rfl) k
  obtain ⟨fs, hr, hrun, hended, hW, hsame⟩ := X0.leave (v := some (.int 0)) (fun h => by rw [Bd.returns] at h; cases h)
  refine ⟨_, _, pre0 _ ?_, hrun, hended, _, _, rfl, ?_, ⟨_, rfl⟩, hW, hsame.mono (by decide) (by decide)⟩
  · show Steps p.tables e below (s₁.setTop (mkF m 0 #[.val (.ref r_WORD), .val (.int 0), .val (.int 8), .val (.int 48), .unset, .unset, .unset, .unset] [])) _
    refine XS.iloadN X0.here hx rfl (hb hby d4_0) rfl ?_
    show Steps p.tables e below (s₁.setTop (mkF m 1 #[.val (.ref r_WORD), .val (.int 0), .val (.int 8), .val (.int 48), .unset, .unset, .unset, .unset] [(.int 0)])) _
    refine XS.istore X0.here hx rfl (hb hby d4_1) rfl (l' := #[.val (.ref r_WORD), .val (.int 0), .val (.int 8), .val (.int 48), .val (.int 0), .unset, .unset, .unset]) rfl ?_
    show Steps p.tables e below (s₁.setTop (mkF m 3 #[.val (.ref r_WORD), .val (.int 0), .val (.int 8), .val (.int 48), .val (.int 0), .unset, .unset, .unset] [])) _
    refine XS.iloadN X0.here hx rfl (hb hby d4_3) rfl ?_
    show Steps p.tables e below (s₁.setTop (mkF m 4 #[.val (.ref r_WORD), .val (.int 0), .val (.int 8), .val (.int 48), .val (.int 0), .unset, .unset, .unset] [(.int 8)])) _
    refine XS.iconst X0.here hx rfl (hb hby d4_4) ?_
    show Steps p.tables e below (s₁.setTop (mkF m 5 #[.val (.ref r_WORD), .val (.int 0), .val (.int 8), .val (.int 48), .val (.int 0), .unset, .unset, .unset] [(.int 1), (.int 8)])) _
    refine XS.isub X0.here hx rfl (hb hby d4_5) rfl ?_
    show Steps p.tables e below (s₁.setTop (mkF m 6 #[.val (.ref r_WORD), .val (.int 0), .val (.int 8), .val (.int 48), .val (.int 0), .unset, .unset, .unset] [(.int ((8 : Int32) - (1 : Int32)))])) _
    rw [(by decide : ((8 : Int32) - (1 : Int32)) = (7 : Int32))]
    show Steps p.tables e below (s₁.setTop (mkF m 6 #[.val (.ref r_WORD), .val (.int 0), .val (.int 8), .val (.int 48), .val (.int 0), .unset, .unset, .unset] [(.int 7)])) _
    refine XS.istore X0.here hx rfl (hb hby d4_6) rfl (l' := #[.val (.ref r_WORD), .val (.int 0), .val (.int 8), .val (.int 48), .val (.int 0), .val (.int 7), .unset, .unset]) rfl ?_
    show Steps p.tables e below (s₁.setTop (mkF m 8 #[.val (.ref r_WORD), .val (.int 0), .val (.int 8), .val (.int 48), .val (.int 0), .val (.int 7), .unset, .unset] [])) _
    refine tnGu r_WORD (0 : Int32) (8 : Int32) (48 : Int32) (0 : Int32) (7 : Int32) (3 : Int32) k_WORD (8 : Int32) [(.int 48), (.int 57), (.int 65), (.int 90), (.int 95), (.int 95), (.int 97), (.int 122)] (.int (0 : Int32)) (90 : Int32) (2 : Int32) X0 hx hZ hby e0 (by decide) (by decide) V_r_WORD ⟨by decide, by decide⟩ rfl (by decide) (by decide) (by decide) _ ?_
    show Steps p.tables e below (s₁.setTop (mkF m 8 #[.val (.ref r_WORD), .val (.int 0), .val (.int 8), .val (.int 48), .val (.int 0), .val (.int 2), .val (.int 3), .val (.int 90)] [])) _
    refine tnGv r_WORD (0 : Int32) (8 : Int32) (48 : Int32) (0 : Int32) (2 : Int32) (3 : Int32) (90 : Int32) (1 : Int32) k_WORD (8 : Int32) [(.int 48), (.int 57), (.int 65), (.int 90), (.int 95), (.int 95), (.int 97), (.int 122)] (.int (0 : Int32)) (57 : Int32) (0 : Int32) X0 hx hZ hby e0 (by decide) (by decide) V_r_WORD ⟨by decide, by decide⟩ rfl (by decide) (by decide) (by decide) _ ?_
    show Steps p.tables e below (s₁.setTop (mkF m 8 #[.val (.ref r_WORD), .val (.int 0), .val (.int 8), .val (.int 48), .val (.int 0), .val (.int 0), .val (.int 1), .val (.int 57)] [])) _
    refine XS.iload X0.here hx rfl (hb hby d4_8) rfl ?_
    show Steps p.tables e below (s₁.setTop (mkF m 10 #[.val (.ref r_WORD), .val (.int 0), .val (.int 8), .val (.int 48), .val (.int 0), .val (.int 0), .val (.int 1), .val (.int 57)] [(.int 0)])) _
    refine XS.iload X0.here hx rfl (hb hby d4_10) rfl ?_
    show Steps p.tables e below (s₁.setTop (mkF m 12 #[.val (.ref r_WORD), .val (.int 0), .val (.int 8), .val (.int 48), .val (.int 0), .val (.int 0), .val (.int 1), .val (.int 57)] [(.int 0), (.int 0)])) _
    refine XS.icmpNo X0.here hx rfl (hb hby d4_12) rfl (flt (by decide : ¬ ((0 : Int32) < (0 : Int32)))).2.2.1 ?_
    show Steps p.tables e below (s₁.setTop (mkF m 15 #[.val (.ref r_WORD), .val (.int 0), .val (.int 8), .val (.int 48), .val (.int 0), .val (.int 0), .val (.int 1), .val (.int 57)] [])) _
    refine XS.iload X0.here hx rfl (hb hby d4_15) rfl ?_
    show Steps p.tables e below (s₁.setTop (mkF m 17 #[.val (.ref r_WORD), .val (.int 0), .val (.int 8), .val (.int 48), .val (.int 0), .val (.int 0), .val (.int 1), .val (.int 57)] [(.int 0)])) _
    refine XS.iload X0.here hx rfl (hb hby d4_17) rfl ?_
    show Steps p.tables e below (s₁.setTop (mkF m 19 #[.val (.ref r_WORD), .val (.int 0), .val (.int 8), .val (.int 48), .val (.int 0), .val (.int 0), .val (.int 1), .val (.int 57)] [(.int 0), (.int 0)])) _
    refine XS.iadd X0.here hx rfl (hb hby d4_19) rfl ?_
    show Steps p.tables e below (s₁.setTop (mkF m 20 #[.val (.ref r_WORD), .val (.int 0), .val (.int 8), .val (.int 48), .val (.int 0), .val (.int 0), .val (.int 1), .val (.int 57)] [(.int ((0 : Int32) + (0 : Int32)))])) _
    rw [(by decide : ((0 : Int32) + (0 : Int32)) = (0 : Int32))]
    show Steps p.tables e below (s₁.setTop (mkF m 20 #[.val (.ref r_WORD), .val (.int 0), .val (.int 8), .val (.int 48), .val (.int 0), .val (.int 0), .val (.int 1), .val (.int 57)] [(.int 0)])) _
    refine XS.iconst X0.here hx rfl (hb hby d4_20) ?_
    show Steps p.tables e below (s₁.setTop (mkF m 21 #[.val (.ref r_WORD), .val (.int 0), .val (.int 8), .val (.int 48), .val (.int 0), .val (.int 0), .val (.int 1), .val (.int 57)] [(.int 1), (.int 0)])) _
    refine XS.iushr X0.here hx rfl (hb hby d4_21) rfl ?_
    show Steps p.tables e below (s₁.setTop (mkF m 22 #[.val (.ref r_WORD), .val (.int 0), .val (.int 8), .val (.int 48), .val (.int 0), .val (.int 0), .val (.int 1), .val (.int 57)] [(.int (((0 : Int32).toUInt32 >>> ((1 : Int32) &&& 31).toUInt32).toInt32))])) _
    rw [(by decide : (((0 : Int32).toUInt32 >>> ((1 : Int32) &&& 31).toUInt32).toInt32) = (0 : Int32))]
    show Steps p.tables e below (s₁.setTop (mkF m 22 #[.val (.ref r_WORD), .val (.int 0), .val (.int 8), .val (.int 48), .val (.int 0), .val (.int 0), .val (.int 1), .val (.int 57)] [(.int 0)])) _
    refine XS.istore X0.here hx rfl (hb hby d4_22) rfl (l' := #[.val (.ref r_WORD), .val (.int 0), .val (.int 8), .val (.int 48), .val (.int 0), .val (.int 0), .val (.int 0), .val (.int 57)]) rfl ?_
    show Steps p.tables e below (s₁.setTop (mkF m 24 #[.val (.ref r_WORD), .val (.int 0), .val (.int 8), .val (.int 48), .val (.int 0), .val (.int 0), .val (.int 0), .val (.int 57)] [])) _
    refine XS.aloadN X0.here hx rfl (hb hby d4_24) rfl rfl ?_
    show Steps p.tables e below (s₁.setTop (mkF m 25 #[.val (.ref r_WORD), .val (.int 0), .val (.int 8), .val (.int 48), .val (.int 0), .val (.int 0), .val (.int 0), .val (.int 57)] [(.ref r_WORD)])) _
    refine XS.iload X0.here hx rfl (hb hby d4_25) rfl ?_
    show Steps p.tables e below (s₁.setTop (mkF m 27 #[.val (.ref r_WORD), .val (.int 0), .val (.int 8), .val (.int 48), .val (.int 0), .val (.int 0), .val (.int 0), .val (.int 57)] [(.int 0), (.ref r_WORD)])) _
    refine own_ldI X0 hx hZ e0 V_r_WORD (j := (0 : Int32)) ⟨by decide, by decide⟩ rfl (g := (mkF m 27 #[.val (.ref r_WORD), .val (.int 0), .val (.int 8), .val (.int 48), .val (.int 0), .val (.int 0), .val (.int 0), .val (.int 57)] [(.int 0), (.ref r_WORD)])) rfl rfl (hb hby d4_27) _ ?_
    show Steps p.tables e below (s₁.setTop (mkF m 28 #[.val (.ref r_WORD), .val (.int 0), .val (.int 8), .val (.int 48), .val (.int 0), .val (.int 0), .val (.int 0), .val (.int 57)] [(.int 48)])) _
    refine XS.istore X0.here hx rfl (hb hby d4_28) rfl (l' := #[.val (.ref r_WORD), .val (.int 0), .val (.int 8), .val (.int 48), .val (.int 0), .val (.int 0), .val (.int 0), .val (.int 48)]) rfl ?_
    show Steps p.tables e below (s₁.setTop (mkF m 30 #[.val (.ref r_WORD), .val (.int 0), .val (.int 8), .val (.int 48), .val (.int 0), .val (.int 0), .val (.int 0), .val (.int 48)] [])) _
    refine XS.iload X0.here hx rfl (hb hby d4_30) rfl ?_
    show Steps p.tables e below (s₁.setTop (mkF m 32 #[.val (.ref r_WORD), .val (.int 0), .val (.int 8), .val (.int 48), .val (.int 0), .val (.int 0), .val (.int 0), .val (.int 48)] [(.int 48)])) _
    refine XS.iloadN X0.here hx rfl (hb hby d4_32) rfl ?_
    show Steps p.tables e below (s₁.setTop (mkF m 33 #[.val (.ref r_WORD), .val (.int 0), .val (.int 8), .val (.int 48), .val (.int 0), .val (.int 0), .val (.int 0), .val (.int 48)] [(.int 48), (.int 48)])) _
    refine XS.icmpYes X0.here hx rfl (pc0 := 33) (pc' := 45) rfl (hb hby d4_33) rfl (flt (by decide : ¬ ((48 : Int32) < (48 : Int32)))).2.1 (by decide) (by decide) ?_
    show Steps p.tables e below (s₁.setTop (mkF m 45 #[.val (.ref r_WORD), .val (.int 0), .val (.int 8), .val (.int 48), .val (.int 0), .val (.int 0), .val (.int 0), .val (.int 48)] [])) _
    refine XS.iload X0.here hx rfl (hb hby d4_45) rfl ?_
    show Steps p.tables e below (s₁.setTop (mkF m 47 #[.val (.ref r_WORD), .val (.int 0), .val (.int 8), .val (.int 48), .val (.int 0), .val (.int 0), .val (.int 0), .val (.int 48)] [(.int 48)])) _
    refine XS.iloadN X0.here hx rfl (hb hby d4_47) rfl ?_
    show Steps p.tables e below (s₁.setTop (mkF m 48 #[.val (.ref r_WORD), .val (.int 0), .val (.int 8), .val (.int 48), .val (.int 0), .val (.int 0), .val (.int 0), .val (.int 48)] [(.int 48), (.int 48)])) _
    refine XS.icmpYes X0.here hx rfl (pc0 := 48) (pc' := 60) rfl (hb hby d4_48) rfl (flt (by decide : ¬ ((48 : Int32) < (48 : Int32)))).2.2.2 (by decide) (by decide) ?_
    show Steps p.tables e below (s₁.setTop (mkF m 60 #[.val (.ref r_WORD), .val (.int 0), .val (.int 8), .val (.int 48), .val (.int 0), .val (.int 0), .val (.int 0), .val (.int 48)] [])) _
    refine XS.iload X0.here hx rfl (hb hby d4_60) rfl ?_
    show Steps p.tables e below (s₁.setTop (mkF m 62 #[.val (.ref r_WORD), .val (.int 0), .val (.int 8), .val (.int 48), .val (.int 0), .val (.int 0), .val (.int 0), .val (.int 48)] [(.int 0)])) _
    exact retI X0 hx Bd.returns (hb hby d4_62) hr
  · show Q4_r_WORD_0_8_48 Z r_WORD k_WORD h0 n0 _ s₁.heap _
    rw [e0]
    exact ⟨rfl, N0, rfl⟩
def Q3_r_WORD_48 (Z : State) (r_WORD : Addr) (k_WORD : ClassId) (h0 : Heap) (n0 : Nat) (v : Option Value) (h : Heap) (L : List Loc) : Prop := v = some (.int 0) ∧ Fr n0 L ∧ h = h0
set_option maxRecDepth 65536 in
set_option maxHeartbeats 40000000 in
theorem rm3_r_WORD_48 (l : Launch) (Z : State) (a0 : Array Value) (hw : ∀ d ∈ tables_1, d.before a0 Z = true) (ws : List Jvm.Cond) (r_WORD : Addr) (k_WORD : ClassId) (h0 : Heap) (n0 : Nat) (Z0 : n0 ≤ h0.size) (V_r_WORD : Arv Z h0 r_WORD k_WORD .int (8 : Int32) [(.int 48), (.int 57), (.int 65), (.int 90), (.int 95), (.int 95), (.int 97), (.int 122)] (.int (0 : Int32))) :
    MetFree l (⟨"java/util/Arrays", "binarySearch", "([II)I"⟩ : MethodName) (head1 (Jvm.Cond.code (⟨"java/util/Arrays", "binarySearch", "([II)I"⟩ : MethodName) jdk_65_method_57_code 2 (some .int) :: ws) ({ frames := 1, cells := 0, slots := 0, locals := 19 } : Room)) (fun a U => a = #[(.ref r_WORD), (.int 48)] ∧ Z.Warmed39 U.vm ∧ U.heap = h0) (fun _ _ _ _ _ => True) (fun _ U o U' => ∃ v L, o = .returned v ∧ Q3_r_WORD_48 Z r_WORD k_WORD h0 n0 v U'.heap L ∧ FrameEnd U o U' L ({ frames := 1, cells := 0, slots := 0, locals := 19 } : Room).cells ({ frames := 1, cells := 0, slots := 0, locals := 19 } : Room).slots) := by
  refine MetFree.of_bodySF (plainFor_of_name pn_3) hisR ?_
  intro p e s m args below meth c s₁ Bd hml0 hP hK
  obtain ⟨rfl, hZ, hh⟩ := hP
  have hx := Bd.exec
  have hby := Bd.bytes
  have hml : c.maxLocals = 2 := hml0
  have hown : s.vm.findClass "java/util/Arrays" = some m.cls := findClass_of_methodNamed Bd.named
  have hnm := (name_of_methodNamed Bd.named Bd.method).1
  have X0 : Stand p l e ({ frames := 1, cells := 0, slots := 0, locals := 19 } : Room) s m #[(.ref r_WORD), (.int 48)] below meth c s₁ [] 0 0 := Stand.of_body Bd
  have e0 : s₁.heap = h0 := by rw [← hh, Bd.state]; rfl
  have N0 := Fr.nil n0
  have pre0 : ∀ t, Steps p.tables e below (s₁.setTop (mkF m 0 #[.val (.ref r_WORD), .val (.int 48)] [])) t → Steps p.tables e below (s₁.setTop (entryFrame m #[(.ref r_WORD), (.int 48)] 2)) t := fun t k => castTop (by first | (simp [entryFrame, mkF, argsToLocals, Value.category]; done) | rfl) k
  obtain ⟨_, _, ⟨T1, L1, k1, n1⟩, -, X1, ⟨Lc1, hQ1, l1, y1, z1⟩, st1⟩ := Jvm.LawKit.callS X0 hx (y := (⟨"java/util/Arrays", "binarySearch0", "([IIII)I"⟩ : MethodName)) hown (mvT hZ (hw _ (List.mem_of_getElem? (i := 19) rfl))) (mvT hZ (hw _ (List.mem_of_getElem? (i := 20) rfl))) (mvT hZ (hw _ (List.mem_of_getElem? (i := 17) rfl))) (mvT hZ (hw _ (List.mem_of_getElem? (i := 21) rfl))) (by decide) (backOf (W := 0) (rm4_r_WORD_0_8_48 l Z a0 hw [] r_WORD k_WORD h0 n0 Z0 V_r_WORD) hZ (hw _ (List.mem_of_getElem? (i := 21) rfl)) (hw _ (List.mem_of_getElem? (i := 17) rfl)) (by decide) (by decide)) (g := (mkF m 5 #[.val (.ref r_WORD), .val (.int 48)] [(.int 48), (.int 8), (.int 0), (.ref r_WORD)])) rfl (by rw [hml]; rfl) (argsL := [(.ref r_WORD), (.int 0), (.int 8), (.int 48)]) (rest := []) (lenOf pd___IIII_I rfl) rfl (by show 2 * 0 + _ ≤ _; exact Nat.le_of_eq rfl) (hb hby d3_5) (fun _ _ => ⟨rfl, e0, (by decide : 0 + 0 ≤ _), (by decide : 0 + 0 ≤ _)⟩)
  dsimp only [Pt.U, Pt.locs, Pt.cells, Pt.slots] at X1 l1 y1 z1 st1 hQ1
  subst l1 y1 z1
  obtain ⟨rfl, N1q, e1⟩ := hQ1
  have N1 := Fr.app N0 N1q
  obtain ⟨fs, hr, hrun, hended, hW, hsame⟩ := X1.leave (v := some (.int 0)) (fun h => by rw [Bd.returns] at h; cases h)
  refine ⟨_, _, pre0 _ ?_, hrun, hended, _, _, rfl, ?_, ⟨_, rfl⟩, hW, hsame.mono (by decide) (by decide)⟩
  · show Steps p.tables e below (s₁.setTop (mkF m 0 #[.val (.ref r_WORD), .val (.int 48)] [])) _
    refine XS.aloadN X0.here hx rfl (hb hby d3_0) rfl rfl ?_
    show Steps p.tables e below (s₁.setTop (mkF m 1 #[.val (.ref r_WORD), .val (.int 48)] [(.ref r_WORD)])) _
    refine XS.iconst X0.here hx rfl (hb hby d3_1) ?_
    show Steps p.tables e below (s₁.setTop (mkF m 2 #[.val (.ref r_WORD), .val (.int 48)] [(.int 0), (.ref r_WORD)])) _
    refine XS.aloadN X0.here hx rfl (hb hby d3_2) rfl rfl ?_
    show Steps p.tables e below (s₁.setTop (mkF m 3 #[.val (.ref r_WORD), .val (.int 48)] [(.ref r_WORD), (.int 0), (.ref r_WORD)])) _
    refine own_lenz X0 hx hZ e0 V_r_WORD (g := (mkF m 3 #[.val (.ref r_WORD), .val (.int 48)] [(.ref r_WORD), (.int 0), (.ref r_WORD)])) rfl rfl (hb hby d3_3) _ ?_
    show Steps p.tables e below (s₁.setTop (mkF m 4 #[.val (.ref r_WORD), .val (.int 48)] [(.int 8), (.int 0), (.ref r_WORD)])) _
    refine XS.iloadN X0.here hx rfl (hb hby d3_4) rfl ?_
    show Steps p.tables e below (s₁.setTop (mkF m 5 #[.val (.ref r_WORD), .val (.int 48)] [(.int 48), (.int 8), (.int 0), (.ref r_WORD)])) _
    refine st1 _ ?_
    show Steps p.tables e below (T1.setTop (mkF m 8 #[.val (.ref r_WORD), .val (.int 48)] [(.int 0)])) _
    exact retI X1 hx Bd.returns (hb hby d3_8) hr
  · show Q3_r_WORD_48 Z r_WORD k_WORD h0 n0 _ T1.heap _
    rw [e1]
    exact ⟨rfl, N1, rfl⟩
def Q2_w_WORD_48_all_WORD (Z : State) (w_WORD : Addr) (r_WORD : Addr) (k_WORD : ClassId) (h0 : Heap) (n0 : Nat) (v : Option Value) (h : Heap) (L : List Loc) : Prop := v = some (.int (own_w (48 : Int32))) ∧ Fr n0 L ∧ h = h0
set_option maxRecDepth 65536 in
set_option maxHeartbeats 40000000 in
theorem rm2_w_WORD_48_all_WORD (l : Launch) (Z : State) (a0 : Array Value) (hw : ∀ d ∈ tables_1, d.before a0 Z = true) (ws : List Jvm.Cond) (w_WORD : Addr) (r_WORD : Addr) (k_WORD : ClassId) (h0 : Heap) (n0 : Nat) (Z0 : n0 ≤ h0.size) (F_ranges_w_WORD : Fld Z h0 w_WORD "com/example/termwell/termwell/core/text/CodePointSet" "ranges" "[I" (.ref r_WORD)) (V_r_WORD : Arv Z h0 r_WORD k_WORD .int (8 : Int32) [(.int 48), (.int 57), (.int 65), (.int 90), (.int 95), (.int 95), (.int 97), (.int 122)] (.int (0 : Int32))) (hret : (own_w (48 : Int32)) = (1 : Int32)) :
    MetFree l (⟨"com/example/termwell/termwell/core/text/CodePointSet", "contains", "(I)Z"⟩ : MethodName) (head1 (Jvm.Cond.code (⟨"com/example/termwell/termwell/core/text/CodePointSet", "contains", "(I)Z"⟩ : MethodName) prog_19_method_4_code 3 (some .boolean) :: ws) ({ frames := 2, cells := 0, slots := 0, locals := 32 } : Room)) (fun a U => a = #[(.ref w_WORD), (.int 48)] ∧ Z.Warmed39 U.vm ∧ U.heap = h0) (fun _ _ _ _ _ => True) (fun _ U o U' => ∃ v L, o = .returned v ∧ Q2_w_WORD_48_all_WORD Z w_WORD r_WORD k_WORD h0 n0 v U'.heap L ∧ FrameEnd U o U' L ({ frames := 2, cells := 0, slots := 0, locals := 32 } : Room).cells ({ frames := 2, cells := 0, slots := 0, locals := 32 } : Room).slots) := by
  refine MetFree.of_bodySF (plainFor_of_name pn_2) hisR ?_
  intro p e s m args below meth c s₁ Bd hml0 hP hK
  obtain ⟨rfl, hZ, hh⟩ := hP
  have hx := Bd.exec
  have hby := Bd.bytes
  have hml : c.maxLocals = 3 := hml0
  have hown : s.vm.findClass "com/example/termwell/termwell/core/text/CodePointSet" = some m.cls := findClass_of_methodNamed Bd.named
  have hnm := (name_of_methodNamed Bd.named Bd.method).1
  have X0 : Stand p l e ({ frames := 2, cells := 0, slots := 0, locals := 32 } : Room) s m #[(.ref w_WORD), (.int 48)] below meth c s₁ [] 0 0 := Stand.of_body Bd
  have e0 : s₁.heap = h0 := by rw [← hh, Bd.state]; rfl
  have N0 := Fr.nil n0
  have pre0 : ∀ t, Steps p.tables e below (s₁.setTop (mkF m 0 #[.val (.ref w_WORD), .val (.int 48), .unset] [])) t → Steps p.tables e below (s₁.setTop (entryFrame m #[(.ref w_WORD), (.int 48)] 3)) t := fun t k => castTop (by first | (simp [entryFrame, mkF, argsToLocals, Value.category]; done) | rfl) k
  obtain ⟨T1, X1, e1, st1⟩ := getF X0 hx hZ hown (host := "") (Or.inl (hw _ (List.mem_of_getElem? (i := 13) rfl))) Via.refl e0 F_ranges_w_WORD (g := (mkF m 1 #[.val (.ref w_WORD), .val (.int 48), .unset] [(.ref w_WORD)])) rfl rfl (hb hby d2_1)
  obtain ⟨_, _, ⟨T2, L2, k2, n2⟩, -, X2, ⟨Lc2, hQ2, l2, y2, z2⟩, st2⟩ := Jvm.LawKit.callS X1 hx (y := (⟨"java/util/Arrays", "binarySearch", "([II)I"⟩ : MethodName)) hown (mvT hZ (hw _ (List.mem_of_getElem? (i := 15) rfl))) (mvT hZ (hw _ (List.mem_of_getElem? (i := 16) rfl))) (mvT hZ (hw _ (List.mem_of_getElem? (i := 17) rfl))) (mvT hZ (hw _ (List.mem_of_getElem? (i := 18) rfl))) (by decide) (backOf (W := 0) (rm3_r_WORD_48 l Z a0 hw [] r_WORD k_WORD h0 n0 Z0 V_r_WORD) hZ (hw _ (List.mem_of_getElem? (i := 18) rfl)) (hw _ (List.mem_of_getElem? (i := 17) rfl)) (by decide) (by decide)) (g := (mkF m 5 #[.val (.ref w_WORD), .val (.int 48), .unset] [(.int 48), (.ref r_WORD)])) rfl (by rw [hml]; rfl) (argsL := [(.ref r_WORD), (.int 48)]) (rest := []) (lenOf pd___II_I rfl) rfl (by show 2 * 0 + _ ≤ _; exact Nat.le_of_eq rfl) (hb hby d2_5) (fun _ _ => ⟨rfl, e1, (by decide : 0 + 0 ≤ _), (by decide : 0 + 0 ≤ _)⟩)
  dsimp only [Pt.U, Pt.locs, Pt.cells, Pt.slots] at X2 l2 y2 z2 st2 hQ2
  subst l2 y2 z2
  obtain ⟨rfl, N2q, e2⟩ := hQ2
  have N2 := Fr.app N0 N2q
  obtain ⟨fs, hr, hrun, hended, hW, hsame⟩ := X2.leave (v := some (.int 1)) (fun h => by rw [Bd.returns] at h; cases h)
  refine ⟨_, _, pre0 _ ?_, hrun, hended, _, _, rfl, ?_, ⟨_, rfl⟩, hW, hsame.mono (by decide) (by decide)⟩
  · show Steps p.tables e below (s₁.setTop (mkF m 0 #[.val (.ref w_WORD), .val (.int 48), .unset] [])) _
    refine XS.aloadN X0.here hx rfl (hb hby d2_0) rfl rfl ?_
    show Steps p.tables e below (s₁.setTop (mkF m 1 #[.val (.ref w_WORD), .val (.int 48), .unset] [(.ref w_WORD)])) _
    refine st1 _ ?_
    show Steps p.tables e below (T1.setTop (mkF m 4 #[.val (.ref w_WORD), .val (.int 48), .unset] [(.ref r_WORD)])) _
    refine XS.iloadN X1.here hx rfl (hb hby d2_4) rfl ?_
    show Steps p.tables e below (T1.setTop (mkF m 5 #[.val (.ref w_WORD), .val (.int 48), .unset] [(.int 48), (.ref r_WORD)])) _
    refine st2 _ ?_
    show Steps p.tables e below (T2.setTop (mkF m 8 #[.val (.ref w_WORD), .val (.int 48), .unset] [(.int 0)])) _
    refine XS.istoreN X2.here hx rfl (hb hby d2_8) rfl (l' := #[.val (.ref w_WORD), .val (.int 48), .val (.int 0)]) rfl ?_
    show Steps p.tables e below (T2.setTop (mkF m 9 #[.val (.ref w_WORD), .val (.int 48), .val (.int 0)] [])) _
    refine XS.iloadN X2.here hx rfl (hb hby d2_9) rfl ?_
    show Steps p.tables e below (T2.setTop (mkF m 10 #[.val (.ref w_WORD), .val (.int 48), .val (.int 0)] [(.int 0)])) _
    refine XS.ifYes X2.here hx rfl (pc0 := 10) (pc' := 23) rfl (hb hby d2_10) rfl ((if0 _ _).trans (flt (by decide : ¬ ((0 : Int32) < (0 : Int32)))).2.1) (by decide) (by decide) ?_
    show Steps p.tables e below (T2.setTop (mkF m 23 #[.val (.ref w_WORD), .val (.int 48), .val (.int 0)] [])) _
    refine XS.iconst X2.here hx rfl (hb hby d2_23) ?_
    show Steps p.tables e below (T2.setTop (mkF m 24 #[.val (.ref w_WORD), .val (.int 48), .val (.int 0)] [(.int 1)])) _
    refine XS.goto X2.here hx rfl (pc0 := 24) (pc' := 28) rfl (hb hby d2_24) (by decide) (by decide) ?_
    show Steps p.tables e below (T2.setTop (mkF m 28 #[.val (.ref w_WORD), .val (.int 48), .val (.int 0)] [(.int 1)])) _
    exact retN X2 hx (t := .boolean) Bd.returns (by simp) (hb hby d2_28) hr
  · show Q2_w_WORD_48_all_WORD Z w_WORD r_WORD k_WORD h0 n0 _ T2.heap _
    rw [e2]
    exact ⟨(by rw [hret]), N2, rfl⟩
def Q4_r_WORD_0_8_x_48_57 (Z : State) (r_WORD : Addr) (x : Int32) (k_WORD : ClassId) (h0 : Heap) (n0 : Nat) (v : Option Value) (h : Heap) (L : List Loc) : Prop := v = some (.int (-2)) ∧ Fr n0 L ∧ h = h0
set_option maxRecDepth 65536 in
set_option maxHeartbeats 40000000 in
theorem rm4_r_WORD_0_8_x_48_57 (l : Launch) (Z : State) (a0 : Array Value) (hw : ∀ d ∈ tables_1, d.before a0 Z = true) (ws : List Jvm.Cond) (r_WORD : Addr) (x : Int32) (k_WORD : ClassId) (h0 : Heap) (n0 : Nat) (Z0 : n0 ≤ h0.size) (hhi_x : x < (57 : Int32)) (V_r_WORD : Arv Z h0 r_WORD k_WORD .int (8 : Int32) [(.int 48), (.int 57), (.int 65), (.int 90), (.int 95), (.int 95), (.int 97), (.int 122)] (.int (0 : Int32))) (hlo_x : (48 : Int32) < x) :
    MetFree l (⟨"java/util/Arrays", "binarySearch0", "([IIII)I"⟩ : MethodName) (head1 (Jvm.Cond.code (⟨"java/util/Arrays", "binarySearch0", "([IIII)I"⟩ : MethodName) jdk_65_method_59_code 8 (some .int) :: ws) ({ frames := 0, cells := 0, slots := 0, locals := 0 } : Room)) (fun a U => a = #[(.ref r_WORD), (.int 0), (.int 8), (.int x)] ∧ Z.Warmed39 U.vm ∧ U.heap = h0) (fun _ _ _ _ _ => True) (fun _ U o U' => ∃ v L, o = .returned v ∧ Q4_r_WORD_0_8_x_48_57 Z r_WORD x k_WORD h0 n0 v U'.heap L ∧ FrameEnd U o U' L ({ frames := 0, cells := 0, slots := 0, locals := 0 } : Room).cells ({ frames := 0, cells := 0, slots := 0, locals := 0 } : Room).slots) := by
  refine MetFree.of_bodySF (plainFor_of_name pn_4) hisR ?_
  intro p e s m args below meth c s₁ Bd hml0 hP hK
  obtain ⟨rfl, hZ, hh⟩ := hP
  have hx := Bd.exec
  have hby := Bd.bytes
  have hml : c.maxLocals = 8 := hml0
  have hown : s.vm.findClass "java/util/Arrays" = some m.cls := findClass_of_methodNamed Bd.named
  have hnm := (name_of_methodNamed Bd.named Bd.method).1
  have X0 : Stand p l e ({ frames := 0, cells := 0, slots := 0, locals := 0 } : Room) s m #[(.ref r_WORD), (.int 0), (.int 8), (.int x)] below meth c s₁ [] 0 0 := Stand.of_body Bd
  have e0 : s₁.heap = h0 := by rw [← hh, Bd.state]; rfl
  have N0 := Fr.nil n0
  have pre0 : ∀ t, Steps p.tables e below (s₁.setTop (mkF m 0 #[.val (.ref r_WORD), .val (.int 0), .val (.int 8), .val (.int x), .unset, .unset, .unset, .unset] [])) t → Steps p.tables e below (s₁.setTop (entryFrame m #[(.ref r_WORD), (.int 0), (.int 8), (.int x)] 8)) t := fun t k => castTop (by first | (simp [entryFrame, mkF, argsToLocals, Value.category]; done) | rfl) k
  obtain ⟨fs, hr, hrun, hended, hW, hsame⟩ := X0.leave (v := some (.int (-2))) (fun h => by rw [Bd.returns] at h; cases h)
  refine ⟨_, _, pre0 _ ?_, hrun, hended, _, _, rfl, ?_, ⟨_, rfl⟩, hW, hsame.mono (by decide) (by decide)⟩
  · show Steps p.tables e below (s₁.setTop (mkF m 0 #[.val (.ref r_WORD), .val (.int 0), .val (.int 8), .val (.int x), .unset, .unset, .unset, .unset] [])) _
    refine XS.iloadN X0.here hx rfl (hb hby d4_0) rfl ?_
    show Steps p.tables e below (s₁.setTop (mkF m 1 #[.val (.ref r_WORD), .val (.int 0), .val (.int 8), .val (.int x), .unset, .unset, .unset, .unset] [(.int 0)])) _
    refine XS.istore X0.here hx rfl (hb hby d4_1) rfl (l' := #[.val (.ref r_WORD), .val (.int 0), .val (.int 8), .val (.int x), .val (.int 0), .unset, .unset, .unset]) rfl ?_
    show Steps p.tables e below (s₁.setTop (mkF m 3 #[.val (.ref r_WORD), .val (.int 0), .val (.int 8), .val (.int x), .val (.int 0), .unset, .unset, .unset] [])) _
    refine XS.iloadN X0.here hx rfl (hb hby d4_3) rfl ?_
    show Steps p.tables e below (s₁.setTop (mkF m 4 #[.val (.ref r_WORD), .val (.int 0), .val (.int 8), .val (.int x), .val (.int 0), .unset, .unset, .unset] [(.int 8)])) _
    refine XS.iconst X0.here hx rfl (hb hby d4_4) ?_
    show Steps p.tables e below (s₁.setTop (mkF m 5 #[.val (.ref r_WORD), .val (.int 0), .val (.int 8), .val (.int x), .val (.int 0), .unset, .unset, .unset] [(.int 1), (.int 8)])) _
    refine XS.isub X0.here hx rfl (hb hby d4_5) rfl ?_
    show Steps p.tables e below (s₁.setTop (mkF m 6 #[.val (.ref r_WORD), .val (.int 0), .val (.int 8), .val (.int x), .val (.int 0), .unset, .unset, .unset] [(.int ((8 : Int32) - (1 : Int32)))])) _
    rw [(by decide : ((8 : Int32) - (1 : Int32)) = (7 : Int32))]
    show Steps p.tables e below (s₁.setTop (mkF m 6 #[.val (.ref r_WORD), .val (.int 0), .val (.int 8), .val (.int x), .val (.int 0), .unset, .unset, .unset] [(.int 7)])) _
    refine XS.istore X0.here hx rfl (hb hby d4_6) rfl (l' := #[.val (.ref r_WORD), .val (.int 0), .val (.int 8), .val (.int x), .val (.int 0), .val (.int 7), .unset, .unset]) rfl ?_
    show Steps p.tables e below (s₁.setTop (mkF m 8 #[.val (.ref r_WORD), .val (.int 0), .val (.int 8), .val (.int x), .val (.int 0), .val (.int 7), .unset, .unset] [])) _
    refine tnGu r_WORD (0 : Int32) (8 : Int32) x (0 : Int32) (7 : Int32) (3 : Int32) k_WORD (8 : Int32) [(.int 48), (.int 57), (.int 65), (.int 90), (.int 95), (.int 95), (.int 97), (.int 122)] (.int (0 : Int32)) (90 : Int32) (2 : Int32) X0 hx hZ hby e0 (by decide) (by decide) V_r_WORD ⟨by decide, by decide⟩ rfl (own_ngt hhi_x (by decide)) (own_lt hhi_x (by decide)) (by decide) _ ?_
    show Steps p.tables e below (s₁.setTop (mkF m 8 #[.val (.ref r_WORD), .val (.int 0), .val (.int 8), .val (.int x), .val (.int 0), .val (.int 2), .val (.int 3), .val (.int 90)] [])) _
    refine tnGv r_WORD (0 : Int32) (8 : Int32) x (0 : Int32) (2 : Int32) (3 : Int32) (90 : Int32) (1 : Int32) k_WORD (8 : Int32) [(.int 48), (.int 57), (.int 65), (.int 90), (.int 95), (.int 95), (.int 97), (.int 122)] (.int (0 : Int32)) (57 : Int32) (0 : Int32) X0 hx hZ hby e0 (by decide) (by decide) V_r_WORD ⟨by decide, by decide⟩ rfl (own_ngt hhi_x (by decide)) (own_lt hhi_x (by decide)) (by decide) _ ?_
    show Steps p.tables e below (s₁.setTop (mkF m 8 #[.val (.ref r_WORD), .val (.int 0), .val (.int 8), .val (.int x), .val (.int 0), .val (.int 0), .val (.int 1), .val (.int 57)] [])) _
    refine tnLv r_WORD (0 : Int32) (8 : Int32) x (0 : Int32) (0 : Int32) (1 : Int32) (57 : Int32) (0 : Int32) k_WORD (8 : Int32) [(.int 48), (.int 57), (.int 65), (.int 90), (.int 95), (.int 95), (.int 97), (.int 122)] (.int (0 : Int32)) (48 : Int32) (1 : Int32) X0 hx hZ hby e0 (by decide) (by decide) V_r_WORD ⟨by decide, by decide⟩ rfl (own_gt hlo_x (by decide)) (by decide) _ ?_
    show Steps p.tables e below (s₁.setTop (mkF m 8 #[.val (.ref r_WORD), .val (.int 0), .val (.int 8), .val (.int x), .val (.int 1), .val (.int 0), .val (.int 0), .val (.int 48)] [])) _
    refine XS.iload X0.here hx rfl (hb hby d4_8) rfl ?_
    show Steps p.tables e below (s₁.setTop (mkF m 10 #[.val (.ref r_WORD), .val (.int 0), .val (.int 8), .val (.int x), .val (.int 1), .val (.int 0), .val (.int 0), .val (.int 48)] [(.int 1)])) _
    refine XS.iload X0.here hx rfl (hb hby d4_10) rfl ?_
    show Steps p.tables e below (s₁.setTop (mkF m 12 #[.val (.ref r_WORD), .val (.int 0), .val (.int 8), .val (.int x), .val (.int 1), .val (.int 0), .val (.int 0), .val (.int 48)] [(.int 0), (.int 1)])) _
    refine XS.icmpYes X0.here hx rfl (pc0 := 12) (pc' := 66) rfl (hb hby d4_12) rfl (tlt (by decide : (0 : Int32) < (1 : Int32))).2.2.1 (by decide) (by decide) ?_
    show Steps p.tables e below (s₁.setTop (mkF m 66 #[.val (.ref r_WORD), .val (.int 0), .val (.int 8), .val (.int x), .val (.int 1), .val (.int 0), .val (.int 0), .val (.int 48)] [])) _
    refine XS.iload X0.here hx rfl (hb hby d4_66) rfl ?_
    show Steps p.tables e below (s₁.setTop (mkF m 68 #[.val (.ref r_WORD), .val (.int 0), .val (.int 8), .val (.int x), .val (.int 1), .val (.int 0), .val (.int 0), .val (.int 48)] [(.int 1)])) _
    refine XS.iconst X0.here hx rfl (hb hby d4_68) ?_
    show Steps p.tables e below (s₁.setTop (mkF m 69 #[.val (.ref r_WORD), .val (.int 0), .val (.int 8), .val (.int x), .val (.int 1), .val (.int 0), .val (.int 0), .val (.int 48)] [(.int 1), (.int 1)])) _
    refine XS.iadd X0.here hx rfl (hb hby d4_69) rfl ?_
    show Steps p.tables e below (s₁.setTop (mkF m 70 #[.val (.ref r_WORD), .val (.int 0), .val (.int 8), .val (.int x), .val (.int 1), .val (.int 0), .val (.int 0), .val (.int 48)] [(.int ((1 : Int32) + (1 : Int32)))])) _
    rw [(by decide : ((1 : Int32) + (1 : Int32)) = (2 : Int32))]
    show Steps p.tables e below (s₁.setTop (mkF m 70 #[.val (.ref r_WORD), .val (.int 0), .val (.int 8), .val (.int x), .val (.int 1), .val (.int 0), .val (.int 0), .val (.int 48)] [(.int 2)])) _
    refine XS.ineg X0.here hx rfl (hb hby d4_70) rfl ?_
    show Steps p.tables e below (s₁.setTop (mkF m 71 #[.val (.ref r_WORD), .val (.int 0), .val (.int 8), .val (.int x), .val (.int 1), .val (.int 0), .val (.int 0), .val (.int 48)] [(.int (-(2 : Int32)))])) _
    rw [(by decide : (-(2 : Int32)) = (-2 : Int32))]
    show Steps p.tables e below (s₁.setTop (mkF m 71 #[.val (.ref r_WORD), .val (.int 0), .val (.int 8), .val (.int x), .val (.int 1), .val (.int 0), .val (.int 0), .val (.int 48)] [(.int (-2))])) _
    exact retI X0 hx Bd.returns (hb hby d4_71) hr
  · show Q4_r_WORD_0_8_x_48_57 Z r_WORD x k_WORD h0 n0 _ s₁.heap _
    rw [e0]
    exact ⟨rfl, N0, rfl⟩
def Q3_r_WORD_x_48_57 (Z : State) (r_WORD : Addr) (x : Int32) (k_WORD : ClassId) (h0 : Heap) (n0 : Nat) (v : Option Value) (h : Heap) (L : List Loc) : Prop := v = some (.int (-2)) ∧ Fr n0 L ∧ h = h0
set_option maxRecDepth 65536 in
set_option maxHeartbeats 40000000 in
theorem rm3_r_WORD_x_48_57 (l : Launch) (Z : State) (a0 : Array Value) (hw : ∀ d ∈ tables_1, d.before a0 Z = true) (ws : List Jvm.Cond) (r_WORD : Addr) (x : Int32) (k_WORD : ClassId) (h0 : Heap) (n0 : Nat) (Z0 : n0 ≤ h0.size) (V_r_WORD : Arv Z h0 r_WORD k_WORD .int (8 : Int32) [(.int 48), (.int 57), (.int 65), (.int 90), (.int 95), (.int 95), (.int 97), (.int 122)] (.int (0 : Int32))) (hhi_x : x < (57 : Int32)) (hlo_x : (48 : Int32) < x) :
    MetFree l (⟨"java/util/Arrays", "binarySearch", "([II)I"⟩ : MethodName) (head1 (Jvm.Cond.code (⟨"java/util/Arrays", "binarySearch", "([II)I"⟩ : MethodName) jdk_65_method_57_code 2 (some .int) :: ws) ({ frames := 1, cells := 0, slots := 0, locals := 19 } : Room)) (fun a U => a = #[(.ref r_WORD), (.int x)] ∧ Z.Warmed39 U.vm ∧ U.heap = h0) (fun _ _ _ _ _ => True) (fun _ U o U' => ∃ v L, o = .returned v ∧ Q3_r_WORD_x_48_57 Z r_WORD x k_WORD h0 n0 v U'.heap L ∧ FrameEnd U o U' L ({ frames := 1, cells := 0, slots := 0, locals := 19 } : Room).cells ({ frames := 1, cells := 0, slots := 0, locals := 19 } : Room).slots) := by
  refine MetFree.of_bodySF (plainFor_of_name pn_3) hisR ?_
  intro p e s m args below meth c s₁ Bd hml0 hP hK
  obtain ⟨rfl, hZ, hh⟩ := hP
  have hx := Bd.exec
  have hby := Bd.bytes
  have hml : c.maxLocals = 2 := hml0
  have hown : s.vm.findClass "java/util/Arrays" = some m.cls := findClass_of_methodNamed Bd.named
  have hnm := (name_of_methodNamed Bd.named Bd.method).1
  have X0 : Stand p l e ({ frames := 1, cells := 0, slots := 0, locals := 19 } : Room) s m #[(.ref r_WORD), (.int x)] below meth c s₁ [] 0 0 := Stand.of_body Bd
  have e0 : s₁.heap = h0 := by rw [← hh, Bd.state]; rfl
  have N0 := Fr.nil n0
  have pre0 : ∀ t, Steps p.tables e below (s₁.setTop (mkF m 0 #[.val (.ref r_WORD), .val (.int x)] [])) t → Steps p.tables e below (s₁.setTop (entryFrame m #[(.ref r_WORD), (.int x)] 2)) t := fun t k => castTop (by first | (simp [entryFrame, mkF, argsToLocals, Value.category]; done) | rfl) k
  obtain ⟨_, _, ⟨T1, L1, k1, n1⟩, -, X1, ⟨Lc1, hQ1, l1, y1, z1⟩, st1⟩ := Jvm.LawKit.callS X0 hx (y := (⟨"java/util/Arrays", "binarySearch0", "([IIII)I"⟩ : MethodName)) hown (mvT hZ (hw _ (List.mem_of_getElem? (i := 19) rfl))) (mvT hZ (hw _ (List.mem_of_getElem? (i := 20) rfl))) (mvT hZ (hw _ (List.mem_of_getElem? (i := 17) rfl))) (mvT hZ (hw _ (List.mem_of_getElem? (i := 21) rfl))) (by decide) (backOf (W := 0) (rm4_r_WORD_0_8_x_48_57 l Z a0 hw [] r_WORD x k_WORD h0 n0 Z0 hhi_x V_r_WORD hlo_x) hZ (hw _ (List.mem_of_getElem? (i := 21) rfl)) (hw _ (List.mem_of_getElem? (i := 17) rfl)) (by decide) (by decide)) (g := (mkF m 5 #[.val (.ref r_WORD), .val (.int x)] [(.int x), (.int 8), (.int 0), (.ref r_WORD)])) rfl (by rw [hml]; rfl) (argsL := [(.ref r_WORD), (.int 0), (.int 8), (.int x)]) (rest := []) (lenOf pd___IIII_I rfl) rfl (by show 2 * 0 + _ ≤ _; exact Nat.le_of_eq rfl) (hb hby d3_5) (fun _ _ => ⟨rfl, e0, (by decide : 0 + 0 ≤ _), (by decide : 0 + 0 ≤ _)⟩)
  dsimp only [Pt.U, Pt.locs, Pt.cells, Pt.slots] at X1 l1 y1 z1 st1 hQ1
  subst l1 y1 z1
  obtain ⟨rfl, N1q, e1⟩ := hQ1
  have N1 := Fr.app N0 N1q
  obtain ⟨fs, hr, hrun, hended, hW, hsame⟩ := X1.leave (v := some (.int (-2))) (fun h => by rw [Bd.returns] at h; cases h)
  refine ⟨_, _, pre0 _ ?_, hrun, hended, _, _, rfl, ?_, ⟨_, rfl⟩, hW, hsame.mono (by decide) (by decide)⟩
  · show Steps p.tables e below (s₁.setTop (mkF m 0 #[.val (.ref r_WORD), .val (.int x)] [])) _
    refine XS.aloadN X0.here hx rfl (hb hby d3_0) rfl rfl ?_
    show Steps p.tables e below (s₁.setTop (mkF m 1 #[.val (.ref r_WORD), .val (.int x)] [(.ref r_WORD)])) _
    refine XS.iconst X0.here hx rfl (hb hby d3_1) ?_
    show Steps p.tables e below (s₁.setTop (mkF m 2 #[.val (.ref r_WORD), .val (.int x)] [(.int 0), (.ref r_WORD)])) _
    refine XS.aloadN X0.here hx rfl (hb hby d3_2) rfl rfl ?_
    show Steps p.tables e below (s₁.setTop (mkF m 3 #[.val (.ref r_WORD), .val (.int x)] [(.ref r_WORD), (.int 0), (.ref r_WORD)])) _
    refine own_lenz X0 hx hZ e0 V_r_WORD (g := (mkF m 3 #[.val (.ref r_WORD), .val (.int x)] [(.ref r_WORD), (.int 0), (.ref r_WORD)])) rfl rfl (hb hby d3_3) _ ?_
    show Steps p.tables e below (s₁.setTop (mkF m 4 #[.val (.ref r_WORD), .val (.int x)] [(.int 8), (.int 0), (.ref r_WORD)])) _
    refine XS.iloadN X0.here hx rfl (hb hby d3_4) rfl ?_
    show Steps p.tables e below (s₁.setTop (mkF m 5 #[.val (.ref r_WORD), .val (.int x)] [(.int x), (.int 8), (.int 0), (.ref r_WORD)])) _
    refine st1 _ ?_
    show Steps p.tables e below (T1.setTop (mkF m 8 #[.val (.ref r_WORD), .val (.int x)] [(.int (-2))])) _
    exact retI X1 hx Bd.returns (hb hby d3_8) hr
  · show Q3_r_WORD_x_48_57 Z r_WORD x k_WORD h0 n0 _ T1.heap _
    rw [e1]
    exact ⟨rfl, N1, rfl⟩
def Q2_w_WORD_x_48_57_all_WORD (Z : State) (w_WORD : Addr) (x : Int32) (r_WORD : Addr) (k_WORD : ClassId) (h0 : Heap) (n0 : Nat) (v : Option Value) (h : Heap) (L : List Loc) : Prop := v = some (.int (own_w x)) ∧ Fr n0 L ∧ h = h0
set_option maxRecDepth 65536 in
set_option maxHeartbeats 40000000 in
theorem rm2_w_WORD_x_48_57_all_WORD (l : Launch) (Z : State) (a0 : Array Value) (hw : ∀ d ∈ tables_1, d.before a0 Z = true) (ws : List Jvm.Cond) (w_WORD : Addr) (x : Int32) (r_WORD : Addr) (k_WORD : ClassId) (h0 : Heap) (n0 : Nat) (Z0 : n0 ≤ h0.size) (F_ranges_w_WORD : Fld Z h0 w_WORD "com/example/termwell/termwell/core/text/CodePointSet" "ranges" "[I" (.ref r_WORD)) (V_r_WORD : Arv Z h0 r_WORD k_WORD .int (8 : Int32) [(.int 48), (.int 57), (.int 65), (.int 90), (.int 95), (.int 95), (.int 97), (.int 122)] (.int (0 : Int32))) (hhi_x : x < (57 : Int32)) (hlo_x : (48 : Int32) < x) (hret : (own_w x) = (1 : Int32)) :
    MetFree l (⟨"com/example/termwell/termwell/core/text/CodePointSet", "contains", "(I)Z"⟩ : MethodName) (head1 (Jvm.Cond.code (⟨"com/example/termwell/termwell/core/text/CodePointSet", "contains", "(I)Z"⟩ : MethodName) prog_19_method_4_code 3 (some .boolean) :: ws) ({ frames := 2, cells := 0, slots := 0, locals := 32 } : Room)) (fun a U => a = #[(.ref w_WORD), (.int x)] ∧ Z.Warmed39 U.vm ∧ U.heap = h0) (fun _ _ _ _ _ => True) (fun _ U o U' => ∃ v L, o = .returned v ∧ Q2_w_WORD_x_48_57_all_WORD Z w_WORD x r_WORD k_WORD h0 n0 v U'.heap L ∧ FrameEnd U o U' L ({ frames := 2, cells := 0, slots := 0, locals := 32 } : Room).cells ({ frames := 2, cells := 0, slots := 0, locals := 32 } : Room).slots) := by
  refine MetFree.of_bodySF (plainFor_of_name pn_2) hisR ?_
  intro p e s m args below meth c s₁ Bd hml0 hP hK
  obtain ⟨rfl, hZ, hh⟩ := hP
  have hx := Bd.exec
  have hby := Bd.bytes
  have hml : c.maxLocals = 3 := hml0
  have hown : s.vm.findClass "com/example/termwell/termwell/core/text/CodePointSet" = some m.cls := findClass_of_methodNamed Bd.named
  have hnm := (name_of_methodNamed Bd.named Bd.method).1
  have X0 : Stand p l e ({ frames := 2, cells := 0, slots := 0, locals := 32 } : Room) s m #[(.ref w_WORD), (.int x)] below meth c s₁ [] 0 0 := Stand.of_body Bd
  have e0 : s₁.heap = h0 := by rw [← hh, Bd.state]; rfl
  have N0 := Fr.nil n0
  have pre0 : ∀ t, Steps p.tables e below (s₁.setTop (mkF m 0 #[.val (.ref w_WORD), .val (.int x), .unset] [])) t → Steps p.tables e below (s₁.setTop (entryFrame m #[(.ref w_WORD), (.int x)] 3)) t := fun t k => castTop (by first | (simp [entryFrame, mkF, argsToLocals, Value.category]; done) | rfl) k
  obtain ⟨T1, X1, e1, st1⟩ := getF X0 hx hZ hown (host := "") (Or.inl (hw _ (List.mem_of_getElem? (i := 13) rfl))) Via.refl e0 F_ranges_w_WORD (g := (mkF m 1 #[.val (.ref w_WORD), .val (.int x), .unset] [(.ref w_WORD)])) rfl rfl (hb hby d2_1)
  obtain ⟨_, _, ⟨T2, L2, k2, n2⟩, -, X2, ⟨Lc2, hQ2, l2, y2, z2⟩, st2⟩ := Jvm.LawKit.callS X1 hx (y := (⟨"java/util/Arrays", "binarySearch", "([II)I"⟩ : MethodName)) hown (mvT hZ (hw _ (List.mem_of_getElem? (i := 15) rfl))) (mvT hZ (hw _ (List.mem_of_getElem? (i := 16) rfl))) (mvT hZ (hw _ (List.mem_of_getElem? (i := 17) rfl))) (mvT hZ (hw _ (List.mem_of_getElem? (i := 18) rfl))) (by decide) (backOf (W := 0) (rm3_r_WORD_x_48_57 l Z a0 hw [] r_WORD x k_WORD h0 n0 Z0 V_r_WORD hhi_x hlo_x) hZ (hw _ (List.mem_of_getElem? (i := 18) rfl)) (hw _ (List.mem_of_getElem? (i := 17) rfl)) (by decide) (by decide)) (g := (mkF m 5 #[.val (.ref w_WORD), .val (.int x), .unset] [(.int x), (.ref r_WORD)])) rfl (by rw [hml]; rfl) (argsL := [(.ref r_WORD), (.int x)]) (rest := []) (lenOf pd___II_I rfl) rfl (by show 2 * 0 + _ ≤ _; exact Nat.le_of_eq rfl) (hb hby d2_5) (fun _ _ => ⟨rfl, e1, (by decide : 0 + 0 ≤ _), (by decide : 0 + 0 ≤ _)⟩)
  dsimp only [Pt.U, Pt.locs, Pt.cells, Pt.slots] at X2 l2 y2 z2 st2 hQ2
  subst l2 y2 z2
  obtain ⟨rfl, N2q, e2⟩ := hQ2
  have N2 := Fr.app N0 N2q
  obtain ⟨fs, hr, hrun, hended, hW, hsame⟩ := X2.leave (v := some (.int 1)) (fun h => by rw [Bd.returns] at h; cases h)
  refine ⟨_, _, pre0 _ ?_, hrun, hended, _, _, rfl, ?_, ⟨_, rfl⟩, hW, hsame.mono (by decide) (by decide)⟩
  · show Steps p.tables e below (s₁.setTop (mkF m 0 #[.val (.ref w_WORD), .val (.int x), .unset] [])) _
    refine XS.aloadN X0.here hx rfl (hb hby d2_0) rfl rfl ?_
    show Steps p.tables e below (s₁.setTop (mkF m 1 #[.val (.ref w_WORD), .val (.int x), .unset] [(.ref w_WORD)])) _
    refine st1 _ ?_
    show Steps p.tables e below (T1.setTop (mkF m 4 #[.val (.ref w_WORD), .val (.int x), .unset] [(.ref r_WORD)])) _
    refine XS.iloadN X1.here hx rfl (hb hby d2_4) rfl ?_
    show Steps p.tables e below (T1.setTop (mkF m 5 #[.val (.ref w_WORD), .val (.int x), .unset] [(.int x), (.ref r_WORD)])) _
    refine st2 _ ?_
    show Steps p.tables e below (T2.setTop (mkF m 8 #[.val (.ref w_WORD), .val (.int x), .unset] [(.int (-2))])) _
    refine XS.istoreN X2.here hx rfl (hb hby d2_8) rfl (l' := #[.val (.ref w_WORD), .val (.int x), .val (.int (-2))]) rfl ?_
    show Steps p.tables e below (T2.setTop (mkF m 9 #[.val (.ref w_WORD), .val (.int x), .val (.int (-2))] [])) _
    refine XS.iloadN X2.here hx rfl (hb hby d2_9) rfl ?_
    show Steps p.tables e below (T2.setTop (mkF m 10 #[.val (.ref w_WORD), .val (.int x), .val (.int (-2))] [(.int (-2))])) _
    refine XS.ifNo X2.here hx rfl (hb hby d2_10) rfl ((if0 _ _).trans (tlt (by decide : (-2 : Int32) < (0 : Int32))).2.1) ?_
    show Steps p.tables e below (T2.setTop (mkF m 13 #[.val (.ref w_WORD), .val (.int x), .val (.int (-2))] [])) _
    refine XS.iloadN X2.here hx rfl (hb hby d2_13) rfl ?_
    show Steps p.tables e below (T2.setTop (mkF m 14 #[.val (.ref w_WORD), .val (.int x), .val (.int (-2))] [(.int (-2))])) _
    refine XS.ineg X2.here hx rfl (hb hby d2_14) rfl ?_
    show Steps p.tables e below (T2.setTop (mkF m 15 #[.val (.ref w_WORD), .val (.int x), .val (.int (-2))] [(.int (-(-2 : Int32)))])) _
    rw [(by decide : (-(-2 : Int32)) = (2 : Int32))]
    show Steps p.tables e below (T2.setTop (mkF m 15 #[.val (.ref w_WORD), .val (.int x), .val (.int (-2))] [(.int 2)])) _
    refine XS.iconst X2.here hx rfl (hb hby d2_15) ?_
    show Steps p.tables e below (T2.setTop (mkF m 16 #[.val (.ref w_WORD), .val (.int x), .val (.int (-2))] [(.int 1), (.int 2)])) _
    refine XS.isub X2.here hx rfl (hb hby d2_16) rfl ?_
    show Steps p.tables e below (T2.setTop (mkF m 17 #[.val (.ref w_WORD), .val (.int x), .val (.int (-2))] [(.int ((2 : Int32) - (1 : Int32)))])) _
    rw [(by decide : ((2 : Int32) - (1 : Int32)) = (1 : Int32))]
    show Steps p.tables e below (T2.setTop (mkF m 17 #[.val (.ref w_WORD), .val (.int x), .val (.int (-2))] [(.int 1)])) _
    refine XS.iconst X2.here hx rfl (hb hby d2_17) ?_
    show Steps p.tables e below (T2.setTop (mkF m 18 #[.val (.ref w_WORD), .val (.int x), .val (.int (-2))] [(.int 2), (.int 1)])) _
    refine iremM X2 hx rfl (hb hby d2_18) rfl (by decide) ?_
    show Steps p.tables e below (T2.setTop (mkF m 19 #[.val (.ref w_WORD), .val (.int x), .val (.int (-2))] [(.int ((1 : Int32) % (2 : Int32)))])) _
    rw [(by decide : ((1 : Int32) % (2 : Int32)) = (1 : Int32))]
    show Steps p.tables e below (T2.setTop (mkF m 19 #[.val (.ref w_WORD), .val (.int x), .val (.int (-2))] [(.int 1)])) _
    refine XS.iconst X2.here hx rfl (hb hby d2_19) ?_
    show Steps p.tables e below (T2.setTop (mkF m 20 #[.val (.ref w_WORD), .val (.int x), .val (.int (-2))] [(.int 1), (.int 1)])) _
    refine XS.icmpNo X2.here hx rfl (hb hby d2_20) rfl (teq (by decide : (1 : Int32) = (1 : Int32))).2 ?_
    show Steps p.tables e below (T2.setTop (mkF m 23 #[.val (.ref w_WORD), .val (.int x), .val (.int (-2))] [])) _
    refine XS.iconst X2.here hx rfl (hb hby d2_23) ?_
    show Steps p.tables e below (T2.setTop (mkF m 24 #[.val (.ref w_WORD), .val (.int x), .val (.int (-2))] [(.int 1)])) _
    refine XS.goto X2.here hx rfl (pc0 := 24) (pc' := 28) rfl (hb hby d2_24) (by decide) (by decide) ?_
    show Steps p.tables e below (T2.setTop (mkF m 28 #[.val (.ref w_WORD), .val (.int x), .val (.int (-2))] [(.int 1)])) _
    exact retN X2 hx (t := .boolean) Bd.returns (by simp) (hb hby d2_28) hr
  · show Q2_w_WORD_x_48_57_all_WORD Z w_WORD x r_WORD k_WORD h0 n0 _ T2.heap _
    rw [e2]
    exact ⟨(by rw [hret]), N2, rfl⟩
def Q4_r_WORD_0_8_57 (Z : State) (r_WORD : Addr) (k_WORD : ClassId) (h0 : Heap) (n0 : Nat) (v : Option Value) (h : Heap) (L : List Loc) : Prop := v = some (.int 1) ∧ Fr n0 L ∧ h = h0
set_option maxRecDepth 65536 in
set_option maxHeartbeats 40000000 in
theorem rm4_r_WORD_0_8_57 (l : Launch) (Z : State) (a0 : Array Value) (hw : ∀ d ∈ tables_1, d.before a0 Z = true) (ws : List Jvm.Cond) (r_WORD : Addr) (k_WORD : ClassId) (h0 : Heap) (n0 : Nat) (Z0 : n0 ≤ h0.size) (V_r_WORD : Arv Z h0 r_WORD k_WORD .int (8 : Int32) [(.int 48), (.int 57), (.int 65), (.int 90), (.int 95), (.int 95), (.int 97), (.int 122)] (.int (0 : Int32))) :
    MetFree l (⟨"java/util/Arrays", "binarySearch0", "([IIII)I"⟩ : MethodName) (head1 (Jvm.Cond.code (⟨"java/util/Arrays", "binarySearch0", "([IIII)I"⟩ : MethodName) jdk_65_method_59_code 8 (some .int) :: ws) ({ frames := 0, cells := 0, slots := 0, locals := 0 } : Room)) (fun a U => a = #[(.ref r_WORD), (.int 0), (.int 8), (.int 57)] ∧ Z.Warmed39 U.vm ∧ U.heap = h0) (fun _ _ _ _ _ => True) (fun _ U o U' => ∃ v L, o = .returned v ∧ Q4_r_WORD_0_8_57 Z r_WORD k_WORD h0 n0 v U'.heap L ∧ FrameEnd U o U' L ({ frames := 0, cells := 0, slots := 0, locals := 0 } : Room).cells ({ frames := 0, cells := 0, slots := 0, locals := 0 } : Room).slots) := by
  refine MetFree.of_bodySF (plainFor_of_name pn_4) hisR ?_
  intro p e s m args below meth c s₁ Bd hml0 hP hK
  obtain ⟨rfl, hZ, hh⟩ := hP
  have hx := Bd.exec
  have hby := Bd.bytes
  have hml : c.maxLocals = 8 := hml0
  have hown : s.vm.findClass "java/util/Arrays" = some m.cls := findClass_of_methodNamed Bd.named
  have hnm := (name_of_methodNamed Bd.named Bd.method).1
  have X0 : Stand p l e ({ frames := 0, cells := 0, slots := 0, locals := 0 } : Room) s m #[(.ref r_WORD), (.int 0), (.int 8), (.int 57)] below meth c s₁ [] 0 0 := Stand.of_body Bd
  have e0 : s₁.heap = h0 := by rw [← hh, Bd.state]; rfl
  have N0 := Fr.nil n0
  have pre0 : ∀ t, Steps p.tables e below (s₁.setTop (mkF m 0 #[.val (.ref r_WORD), .val (.int 0), .val (.int 8), .val (.int 57), .unset, .unset, .unset, .unset] [])) t → Steps p.tables e below (s₁.setTop (entryFrame m #[(.ref r_WORD), (.int 0), (.int 8), (.int 57)] 8)) t := fun t k => castTop (by first | (simp [entryFrame, mkF, argsToLocals, Value.category]; done) | rfl) k
  obtain ⟨fs, hr, hrun, hended, hW, hsame⟩ := X0.leave (v := some (.int 1)) (fun h => by rw [Bd.returns] at h; cases h)
  refine ⟨_, _, pre0 _ ?_, hrun, hended, _, _, rfl, ?_, ⟨_, rfl⟩, hW, hsame.mono (by decide) (by decide)⟩
  · show Steps p.tables e below (s₁.setTop (mkF m 0 #[.val (.ref r_WORD), .val (.int 0), .val (.int 8), .val (.int 57), .unset, .unset, .unset, .unset] [])) _
    refine XS.iloadN X0.here hx rfl (hb hby d4_0) rfl ?_
    show Steps p.tables e below (s₁.setTop (mkF m 1 #[.val (.ref r_WORD), .val (.int 0), .val (.int 8), .val (.int 57), .unset, .unset, .unset, .unset] [(.int 0)])) _
    refine XS.istore X0.here hx rfl (hb hby d4_1) rfl (l' := #[.val (.ref r_WORD), .val (.int 0), .val (.int 8), .val (.int 57), .val (.int 0), .unset, .unset, .unset]) rfl ?_
    show Steps p.tables e below (s₁.setTop (mkF m 3 #[.val (.ref r_WORD), .val (.int 0), .val (.int 8), .val (.int 57), .val (.int 0), .unset, .unset, .unset] [])) _
    refine XS.iloadN X0.here hx rfl (hb hby d4_3) rfl ?_
    show Steps p.tables e below (s₁.setTop (mkF m 4 #[.val (.ref r_WORD), .val (.int 0), .val (.int 8), .val (.int 57), .val (.int 0), .unset, .unset, .unset] [(.int 8)])) _
    refine XS.iconst X0.here hx rfl (hb hby d4_4) ?_
    show Steps p.tables e below (s₁.setTop (mkF m 5 #[.val (.ref r_WORD), .val (.int 0), .val (.int 8), .val (.int 57), .val (.int 0), .unset, .unset, .unset] [(.int 1), (.int 8)])) _
    refine XS.isub X0.here hx rfl (hb hby d4_5) rfl ?_
    show Steps p.tables e below (s₁.setTop (mkF m 6 #[.val (.ref r_WORD), .val (.int 0), .val (.int 8), .val (.int 57), .val (.int 0), .unset, .unset, .unset] [(.int ((8 : Int32) - (1 : Int32)))])) _
    rw [(by decide : ((8 : Int32) - (1 : Int32)) = (7 : Int32))]
    show Steps p.tables e below (s₁.setTop (mkF m 6 #[.val (.ref r_WORD), .val (.int 0), .val (.int 8), .val (.int 57), .val (.int 0), .unset, .unset, .unset] [(.int 7)])) _
    refine XS.istore X0.here hx rfl (hb hby d4_6) rfl (l' := #[.val (.ref r_WORD), .val (.int 0), .val (.int 8), .val (.int 57), .val (.int 0), .val (.int 7), .unset, .unset]) rfl ?_
    show Steps p.tables e below (s₁.setTop (mkF m 8 #[.val (.ref r_WORD), .val (.int 0), .val (.int 8), .val (.int 57), .val (.int 0), .val (.int 7), .unset, .unset] [])) _
    refine tnGu r_WORD (0 : Int32) (8 : Int32) (57 : Int32) (0 : Int32) (7 : Int32) (3 : Int32) k_WORD (8 : Int32) [(.int 48), (.int 57), (.int 65), (.int 90), (.int 95), (.int 95), (.int 97), (.int 122)] (.int (0 : Int32)) (90 : Int32) (2 : Int32) X0 hx hZ hby e0 (by decide) (by decide) V_r_WORD ⟨by decide, by decide⟩ rfl (by decide) (by decide) (by decide) _ ?_
    show Steps p.tables e below (s₁.setTop (mkF m 8 #[.val (.ref r_WORD), .val (.int 0), .val (.int 8), .val (.int 57), .val (.int 0), .val (.int 2), .val (.int 3), .val (.int 90)] [])) _
    refine XS.iload X0.here hx rfl (hb hby d4_8) rfl ?_
    show Steps p.tables e below (s₁.setTop (mkF m 10 #[.val (.ref r_WORD), .val (.int 0), .val (.int 8), .val (.int 57), .val (.int 0), .val (.int 2), .val (.int 3), .val (.int 90)] [(.int 0)])) _
    refine XS.iload X0.here hx rfl (hb hby d4_10) rfl ?_
    show Steps p.tables e below (s₁.setTop (mkF m 12 #[.val (.ref r_WORD), .val (.int 0), .val (.int 8), .val (.int 57), .val (.int 0), .val (.int 2), .val (.int 3), .val (.int 90)] [(.int 2), (.int 0)])) _
    refine XS.icmpNo X0.here hx rfl (hb hby d4_12) rfl (flt (by decide : ¬ ((2 : Int32) < (0 : Int32)))).2.2.1 ?_
    show Steps p.tables e below (s₁.setTop (mkF m 15 #[.val (.ref r_WORD), .val (.int 0), .val (.int 8), .val (.int 57), .val (.int 0), .val (.int 2), .val (.int 3), .val (.int 90)] [])) _
    refine XS.iload X0.here hx rfl (hb hby d4_15) rfl ?_
    show Steps p.tables e below (s₁.setTop (mkF m 17 #[.val (.ref r_WORD), .val (.int 0), .val (.int 8), .val (.int 57), .val (.int 0), .val (.int 2), .val (.int 3), .val (.int 90)] [(.int 0)])) _
    refine XS.iload X0.here hx rfl (hb hby d4_17) rfl ?_
    show Steps p.tables e below (s₁.setTop (mkF m 19 #[.val (.ref r_WORD), .val (.int 0), .val (.int 8), .val (.int 57), .val (.int 0), .val (.int 2), .val (.int 3), .val (.int 90)] [(.int 2), (.int 0)])) _
    refine XS.iadd X0.here hx rfl (hb hby d4_19) rfl ?_
    show Steps p.tables e below (s₁.setTop (mkF m 20 #[.val (.ref r_WORD), .val (.int 0), .val (.int 8), .val (.int 57), .val (.int 0), .val (.int 2), .val (.int 3), .val (.int 90)] [(.int ((0 : Int32) + (2 : Int32)))])) _
    rw [(by decide : ((0 : Int32) + (2 : Int32)) = (2 : Int32))]
    show Steps p.tables e below (s₁.setTop (mkF m 20 #[.val (.ref r_WORD), .val (.int 0), .val (.int 8), .val (.int 57), .val (.int 0), .val (.int 2), .val (.int 3), .val (.int 90)] [(.int 2)])) _
    refine XS.iconst X0.here hx rfl (hb hby d4_20) ?_
    show Steps p.tables e below (s₁.setTop (mkF m 21 #[.val (.ref r_WORD), .val (.int 0), .val (.int 8), .val (.int 57), .val (.int 0), .val (.int 2), .val (.int 3), .val (.int 90)] [(.int 1), (.int 2)])) _
    refine XS.iushr X0.here hx rfl (hb hby d4_21) rfl ?_
    show Steps p.tables e below (s₁.setTop (mkF m 22 #[.val (.ref r_WORD), .val (.int 0), .val (.int 8), .val (.int 57), .val (.int 0), .val (.int 2), .val (.int 3), .val (.int 90)] [(.int (((2 : Int32).toUInt32 >>> ((1 : Int32) &&& 31).toUInt32).toInt32))])) _
    rw [(by decide : (((2 : Int32).toUInt32 >>> ((1 : Int32) &&& 31).toUInt32).toInt32) = (1 : Int32))]
    show Steps p.tables e below (s₁.setTop (mkF m 22 #[.val (.ref r_WORD), .val (.int 0), .val (.int 8), .val (.int 57), .val (.int 0), .val (.int 2), .val (.int 3), .val (.int 90)] [(.int 1)])) _
    refine XS.istore X0.here hx rfl (hb hby d4_22) rfl (l' := #[.val (.ref r_WORD), .val (.int 0), .val (.int 8), .val (.int 57), .val (.int 0), .val (.int 2), .val (.int 1), .val (.int 90)]) rfl ?_
    show Steps p.tables e below (s₁.setTop (mkF m 24 #[.val (.ref r_WORD), .val (.int 0), .val (.int 8), .val (.int 57), .val (.int 0), .val (.int 2), .val (.int 1), .val (.int 90)] [])) _
    refine XS.aloadN X0.here hx rfl (hb hby d4_24) rfl rfl ?_
    show Steps p.tables e below (s₁.setTop (mkF m 25 #[.val (.ref r_WORD), .val (.int 0), .val (.int 8), .val (.int 57), .val (.int 0), .val (.int 2), .val (.int 1), .val (.int 90)] [(.ref r_WORD)])) _
    refine XS.iload X0.here hx rfl (hb hby d4_25) rfl ?_
    show Steps p.tables e below (s₁.setTop (mkF m 27 #[.val (.ref r_WORD), .val (.int 0), .val (.int 8), .val (.int 57), .val (.int 0), .val (.int 2), .val (.int 1), .val (.int 90)] [(.int 1), (.ref r_WORD)])) _
    refine own_ldI X0 hx hZ e0 V_r_WORD (j := (1 : Int32)) ⟨by decide, by decide⟩ rfl (g := (mkF m 27 #[.val (.ref r_WORD), .val (.int 0), .val (.int 8), .val (.int 57), .val (.int 0), .val (.int 2), .val (.int 1), .val (.int 90)] [(.int 1), (.ref r_WORD)])) rfl rfl (hb hby d4_27) _ ?_
    show Steps p.tables e below (s₁.setTop (mkF m 28 #[.val (.ref r_WORD), .val (.int 0), .val (.int 8), .val (.int 57), .val (.int 0), .val (.int 2), .val (.int 1), .val (.int 90)] [(.int 57)])) _
    refine XS.istore X0.here hx rfl (hb hby d4_28) rfl (l' := #[.val (.ref r_WORD), .val (.int 0), .val (.int 8), .val (.int 57), .val (.int 0), .val (.int 2), .val (.int 1), .val (.int 57)]) rfl ?_
    show Steps p.tables e below (s₁.setTop (mkF m 30 #[.val (.ref r_WORD), .val (.int 0), .val (.int 8), .val (.int 57), .val (.int 0), .val (.int 2), .val (.int 1), .val (.int 57)] [])) _
    refine XS.iload X0.here hx rfl (hb hby d4_30) rfl ?_
    show Steps p.tables e below (s₁.setTop (mkF m 32 #[.val (.ref r_WORD), .val (.int 0), .val (.int 8), .val (.int 57), .val (.int 0), .val (.int 2), .val (.int 1), .val (.int 57)] [(.int 57)])) _
    refine XS.iloadN X0.here hx rfl (hb hby d4_32) rfl ?_
    show Steps p.tables e below (s₁.setTop (mkF m 33 #[.val (.ref r_WORD), .val (.int 0), .val (.int 8), .val (.int 57), .val (.int 0), .val (.int 2), .val (.int 1), .val (.int 57)] [(.int 57), (.int 57)])) _
    refine XS.icmpYes X0.here hx rfl (pc0 := 33) (pc' := 45) rfl (hb hby d4_33) rfl (flt (by decide : ¬ ((57 : Int32) < (57 : Int32)))).2.1 (by decide) (by decide) ?_
    show Steps p.tables e below (s₁.setTop (mkF m 45 #[.val (.ref r_WORD), .val (.int 0), .val (.int 8), .val (.int 57), .val (.int 0), .val (.int 2), .val (.int 1), .val (.int 57)] [])) _
    refine XS.iload X0.here hx rfl (hb hby d4_45) rfl ?_
    show Steps p.tables e below (s₁.setTop (mkF m 47 #[.val (.ref r_WORD), .val (.int 0), .val (.int 8), .val (.int 57), .val (.int 0), .val (.int 2), .val (.int 1), .val (.int 57)] [(.int 57)])) _
    refine XS.iloadN X0.here hx rfl (hb hby d4_47) rfl ?_
    show Steps p.tables e below (s₁.setTop (mkF m 48 #[.val (.ref r_WORD), .val (.int 0), .val (.int 8), .val (.int 57), .val (.int 0), .val (.int 2), .val (.int 1), .val (.int 57)] [(.int 57), (.int 57)])) _
    refine XS.icmpYes X0.here hx rfl (pc0 := 48) (pc' := 60) rfl (hb hby d4_48) rfl (flt (by decide : ¬ ((57 : Int32) < (57 : Int32)))).2.2.2 (by decide) (by decide) ?_
    show Steps p.tables e below (s₁.setTop (mkF m 60 #[.val (.ref r_WORD), .val (.int 0), .val (.int 8), .val (.int 57), .val (.int 0), .val (.int 2), .val (.int 1), .val (.int 57)] [])) _
    refine XS.iload X0.here hx rfl (hb hby d4_60) rfl ?_
    show Steps p.tables e below (s₁.setTop (mkF m 62 #[.val (.ref r_WORD), .val (.int 0), .val (.int 8), .val (.int 57), .val (.int 0), .val (.int 2), .val (.int 1), .val (.int 57)] [(.int 1)])) _
    exact retI X0 hx Bd.returns (hb hby d4_62) hr
  · show Q4_r_WORD_0_8_57 Z r_WORD k_WORD h0 n0 _ s₁.heap _
    rw [e0]
    exact ⟨rfl, N0, rfl⟩
def Q3_r_WORD_57 (Z : State) (r_WORD : Addr) (k_WORD : ClassId) (h0 : Heap) (n0 : Nat) (v : Option Value) (h : Heap) (L : List Loc) : Prop := v = some (.int 1) ∧ Fr n0 L ∧ h = h0
set_option maxRecDepth 65536 in
set_option maxHeartbeats 40000000 in
theorem rm3_r_WORD_57 (l : Launch) (Z : State) (a0 : Array Value) (hw : ∀ d ∈ tables_1, d.before a0 Z = true) (ws : List Jvm.Cond) (r_WORD : Addr) (k_WORD : ClassId) (h0 : Heap) (n0 : Nat) (Z0 : n0 ≤ h0.size) (V_r_WORD : Arv Z h0 r_WORD k_WORD .int (8 : Int32) [(.int 48), (.int 57), (.int 65), (.int 90), (.int 95), (.int 95), (.int 97), (.int 122)] (.int (0 : Int32))) :
    MetFree l (⟨"java/util/Arrays", "binarySearch", "([II)I"⟩ : MethodName) (head1 (Jvm.Cond.code (⟨"java/util/Arrays", "binarySearch", "([II)I"⟩ : MethodName) jdk_65_method_57_code 2 (some .int) :: ws) ({ frames := 1, cells := 0, slots := 0, locals := 19 } : Room)) (fun a U => a = #[(.ref r_WORD), (.int 57)] ∧ Z.Warmed39 U.vm ∧ U.heap = h0) (fun _ _ _ _ _ => True) (fun _ U o U' => ∃ v L, o = .returned v ∧ Q3_r_WORD_57 Z r_WORD k_WORD h0 n0 v U'.heap L ∧ FrameEnd U o U' L ({ frames := 1, cells := 0, slots := 0, locals := 19 } : Room).cells ({ frames := 1, cells := 0, slots := 0, locals := 19 } : Room).slots) := by
  refine MetFree.of_bodySF (plainFor_of_name pn_3) hisR ?_
  intro p e s m args below meth c s₁ Bd hml0 hP hK
  obtain ⟨rfl, hZ, hh⟩ := hP
  have hx := Bd.exec
  have hby := Bd.bytes
  have hml : c.maxLocals = 2 := hml0
  have hown : s.vm.findClass "java/util/Arrays" = some m.cls := findClass_of_methodNamed Bd.named
  have hnm := (name_of_methodNamed Bd.named Bd.method).1
  have X0 : Stand p l e ({ frames := 1, cells := 0, slots := 0, locals := 19 } : Room) s m #[(.ref r_WORD), (.int 57)] below meth c s₁ [] 0 0 := Stand.of_body Bd
  have e0 : s₁.heap = h0 := by rw [← hh, Bd.state]; rfl
  have N0 := Fr.nil n0
  have pre0 : ∀ t, Steps p.tables e below (s₁.setTop (mkF m 0 #[.val (.ref r_WORD), .val (.int 57)] [])) t → Steps p.tables e below (s₁.setTop (entryFrame m #[(.ref r_WORD), (.int 57)] 2)) t := fun t k => castTop (by first | (simp [entryFrame, mkF, argsToLocals, Value.category]; done) | rfl) k
  obtain ⟨_, _, ⟨T1, L1, k1, n1⟩, -, X1, ⟨Lc1, hQ1, l1, y1, z1⟩, st1⟩ := Jvm.LawKit.callS X0 hx (y := (⟨"java/util/Arrays", "binarySearch0", "([IIII)I"⟩ : MethodName)) hown (mvT hZ (hw _ (List.mem_of_getElem? (i := 19) rfl))) (mvT hZ (hw _ (List.mem_of_getElem? (i := 20) rfl))) (mvT hZ (hw _ (List.mem_of_getElem? (i := 17) rfl))) (mvT hZ (hw _ (List.mem_of_getElem? (i := 21) rfl))) (by decide) (backOf (W := 0) (rm4_r_WORD_0_8_57 l Z a0 hw [] r_WORD k_WORD h0 n0 Z0 V_r_WORD) hZ (hw _ (List.mem_of_getElem? (i := 21) rfl)) (hw _ (List.mem_of_getElem? (i := 17) rfl)) (by decide) (by decide)) (g := (mkF m 5 #[.val (.ref r_WORD), .val (.int 57)] [(.int 57), (.int 8), (.int 0), (.ref r_WORD)])) rfl (by rw [hml]; rfl) (argsL := [(.ref r_WORD), (.int 0), (.int 8), (.int 57)]) (rest := []) (lenOf pd___IIII_I rfl) rfl (by show 2 * 0 + _ ≤ _; exact Nat.le_of_eq rfl) (hb hby d3_5) (fun _ _ => ⟨rfl, e0, (by decide : 0 + 0 ≤ _), (by decide : 0 + 0 ≤ _)⟩)
  dsimp only [Pt.U, Pt.locs, Pt.cells, Pt.slots] at X1 l1 y1 z1 st1 hQ1
  subst l1 y1 z1
  obtain ⟨rfl, N1q, e1⟩ := hQ1
  have N1 := Fr.app N0 N1q
  obtain ⟨fs, hr, hrun, hended, hW, hsame⟩ := X1.leave (v := some (.int 1)) (fun h => by rw [Bd.returns] at h; cases h)
  refine ⟨_, _, pre0 _ ?_, hrun, hended, _, _, rfl, ?_, ⟨_, rfl⟩, hW, hsame.mono (by decide) (by decide)⟩
  · show Steps p.tables e below (s₁.setTop (mkF m 0 #[.val (.ref r_WORD), .val (.int 57)] [])) _
    refine XS.aloadN X0.here hx rfl (hb hby d3_0) rfl rfl ?_
    show Steps p.tables e below (s₁.setTop (mkF m 1 #[.val (.ref r_WORD), .val (.int 57)] [(.ref r_WORD)])) _
    refine XS.iconst X0.here hx rfl (hb hby d3_1) ?_
    show Steps p.tables e below (s₁.setTop (mkF m 2 #[.val (.ref r_WORD), .val (.int 57)] [(.int 0), (.ref r_WORD)])) _
    refine XS.aloadN X0.here hx rfl (hb hby d3_2) rfl rfl ?_
    show Steps p.tables e below (s₁.setTop (mkF m 3 #[.val (.ref r_WORD), .val (.int 57)] [(.ref r_WORD), (.int 0), (.ref r_WORD)])) _
    refine own_lenz X0 hx hZ e0 V_r_WORD (g := (mkF m 3 #[.val (.ref r_WORD), .val (.int 57)] [(.ref r_WORD), (.int 0), (.ref r_WORD)])) rfl rfl (hb hby d3_3) _ ?_
    show Steps p.tables e below (s₁.setTop (mkF m 4 #[.val (.ref r_WORD), .val (.int 57)] [(.int 8), (.int 0), (.ref r_WORD)])) _
    refine XS.iloadN X0.here hx rfl (hb hby d3_4) rfl ?_
    show Steps p.tables e below (s₁.setTop (mkF m 5 #[.val (.ref r_WORD), .val (.int 57)] [(.int 57), (.int 8), (.int 0), (.ref r_WORD)])) _
    refine st1 _ ?_
    show Steps p.tables e below (T1.setTop (mkF m 8 #[.val (.ref r_WORD), .val (.int 57)] [(.int 1)])) _
    exact retI X1 hx Bd.returns (hb hby d3_8) hr
  · show Q3_r_WORD_57 Z r_WORD k_WORD h0 n0 _ T1.heap _
    rw [e1]
    exact ⟨rfl, N1, rfl⟩
def Q2_w_WORD_57_all_WORD (Z : State) (w_WORD : Addr) (r_WORD : Addr) (k_WORD : ClassId) (h0 : Heap) (n0 : Nat) (v : Option Value) (h : Heap) (L : List Loc) : Prop := v = some (.int (own_w (57 : Int32))) ∧ Fr n0 L ∧ h = h0
set_option maxRecDepth 65536 in
set_option maxHeartbeats 40000000 in
theorem rm2_w_WORD_57_all_WORD (l : Launch) (Z : State) (a0 : Array Value) (hw : ∀ d ∈ tables_1, d.before a0 Z = true) (ws : List Jvm.Cond) (w_WORD : Addr) (r_WORD : Addr) (k_WORD : ClassId) (h0 : Heap) (n0 : Nat) (Z0 : n0 ≤ h0.size) (F_ranges_w_WORD : Fld Z h0 w_WORD "com/example/termwell/termwell/core/text/CodePointSet" "ranges" "[I" (.ref r_WORD)) (V_r_WORD : Arv Z h0 r_WORD k_WORD .int (8 : Int32) [(.int 48), (.int 57), (.int 65), (.int 90), (.int 95), (.int 95), (.int 97), (.int 122)] (.int (0 : Int32))) (hret : (own_w (57 : Int32)) = (1 : Int32)) :
    MetFree l (⟨"com/example/termwell/termwell/core/text/CodePointSet", "contains", "(I)Z"⟩ : MethodName) (head1 (Jvm.Cond.code (⟨"com/example/termwell/termwell/core/text/CodePointSet", "contains", "(I)Z"⟩ : MethodName) prog_19_method_4_code 3 (some .boolean) :: ws) ({ frames := 2, cells := 0, slots := 0, locals := 32 } : Room)) (fun a U => a = #[(.ref w_WORD), (.int 57)] ∧ Z.Warmed39 U.vm ∧ U.heap = h0) (fun _ _ _ _ _ => True) (fun _ U o U' => ∃ v L, o = .returned v ∧ Q2_w_WORD_57_all_WORD Z w_WORD r_WORD k_WORD h0 n0 v U'.heap L ∧ FrameEnd U o U' L ({ frames := 2, cells := 0, slots := 0, locals := 32 } : Room).cells ({ frames := 2, cells := 0, slots := 0, locals := 32 } : Room).slots) := by
  refine MetFree.of_bodySF (plainFor_of_name pn_2) hisR ?_
  intro p e s m args below meth c s₁ Bd hml0 hP hK
  obtain ⟨rfl, hZ, hh⟩ := hP
  have hx := Bd.exec
  have hby := Bd.bytes
  have hml : c.maxLocals = 3 := hml0
  have hown : s.vm.findClass "com/example/termwell/termwell/core/text/CodePointSet" = some m.cls := findClass_of_methodNamed Bd.named
  have hnm := (name_of_methodNamed Bd.named Bd.method).1
  have X0 : Stand p l e ({ frames := 2, cells := 0, slots := 0, locals := 32 } : Room) s m #[(.ref w_WORD), (.int 57)] below meth c s₁ [] 0 0 := Stand.of_body Bd
  have e0 : s₁.heap = h0 := by rw [← hh, Bd.state]; rfl
  have N0 := Fr.nil n0
  have pre0 : ∀ t, Steps p.tables e below (s₁.setTop (mkF m 0 #[.val (.ref w_WORD), .val (.int 57), .unset] [])) t → Steps p.tables e below (s₁.setTop (entryFrame m #[(.ref w_WORD), (.int 57)] 3)) t := fun t k => castTop (by first | (simp [entryFrame, mkF, argsToLocals, Value.category]; done) | rfl) k
  obtain ⟨T1, X1, e1, st1⟩ := getF X0 hx hZ hown (host := "") (Or.inl (hw _ (List.mem_of_getElem? (i := 13) rfl))) Via.refl e0 F_ranges_w_WORD (g := (mkF m 1 #[.val (.ref w_WORD), .val (.int 57), .unset] [(.ref w_WORD)])) rfl rfl (hb hby d2_1)
  obtain ⟨_, _, ⟨T2, L2, k2, n2⟩, -, X2, ⟨Lc2, hQ2, l2, y2, z2⟩, st2⟩ := Jvm.LawKit.callS X1 hx (y := (⟨"java/util/Arrays", "binarySearch", "([II)I"⟩ : MethodName)) hown (mvT hZ (hw _ (List.mem_of_getElem? (i := 15) rfl))) (mvT hZ (hw _ (List.mem_of_getElem? (i := 16) rfl))) (mvT hZ (hw _ (List.mem_of_getElem? (i := 17) rfl))) (mvT hZ (hw _ (List.mem_of_getElem? (i := 18) rfl))) (by decide) (backOf (W := 0) (rm3_r_WORD_57 l Z a0 hw [] r_WORD k_WORD h0 n0 Z0 V_r_WORD) hZ (hw _ (List.mem_of_getElem? (i := 18) rfl)) (hw _ (List.mem_of_getElem? (i := 17) rfl)) (by decide) (by decide)) (g := (mkF m 5 #[.val (.ref w_WORD), .val (.int 57), .unset] [(.int 57), (.ref r_WORD)])) rfl (by rw [hml]; rfl) (argsL := [(.ref r_WORD), (.int 57)]) (rest := []) (lenOf pd___II_I rfl) rfl (by show 2 * 0 + _ ≤ _; exact Nat.le_of_eq rfl) (hb hby d2_5) (fun _ _ => ⟨rfl, e1, (by decide : 0 + 0 ≤ _), (by decide : 0 + 0 ≤ _)⟩)
  dsimp only [Pt.U, Pt.locs, Pt.cells, Pt.slots] at X2 l2 y2 z2 st2 hQ2
  subst l2 y2 z2
  obtain ⟨rfl, N2q, e2⟩ := hQ2
  have N2 := Fr.app N0 N2q
  obtain ⟨fs, hr, hrun, hended, hW, hsame⟩ := X2.leave (v := some (.int 1)) (fun h => by rw [Bd.returns] at h; cases h)
  refine ⟨_, _, pre0 _ ?_, hrun, hended, _, _, rfl, ?_, ⟨_, rfl⟩, hW, hsame.mono (by decide) (by decide)⟩
  · show Steps p.tables e below (s₁.setTop (mkF m 0 #[.val (.ref w_WORD), .val (.int 57), .unset] [])) _
    refine XS.aloadN X0.here hx rfl (hb hby d2_0) rfl rfl ?_
    show Steps p.tables e below (s₁.setTop (mkF m 1 #[.val (.ref w_WORD), .val (.int 57), .unset] [(.ref w_WORD)])) _
    refine st1 _ ?_
    show Steps p.tables e below (T1.setTop (mkF m 4 #[.val (.ref w_WORD), .val (.int 57), .unset] [(.ref r_WORD)])) _
    refine XS.iloadN X1.here hx rfl (hb hby d2_4) rfl ?_
    show Steps p.tables e below (T1.setTop (mkF m 5 #[.val (.ref w_WORD), .val (.int 57), .unset] [(.int 57), (.ref r_WORD)])) _
    refine st2 _ ?_
    show Steps p.tables e below (T2.setTop (mkF m 8 #[.val (.ref w_WORD), .val (.int 57), .unset] [(.int 1)])) _
    refine XS.istoreN X2.here hx rfl (hb hby d2_8) rfl (l' := #[.val (.ref w_WORD), .val (.int 57), .val (.int 1)]) rfl ?_
    show Steps p.tables e below (T2.setTop (mkF m 9 #[.val (.ref w_WORD), .val (.int 57), .val (.int 1)] [])) _
    refine XS.iloadN X2.here hx rfl (hb hby d2_9) rfl ?_
    show Steps p.tables e below (T2.setTop (mkF m 10 #[.val (.ref w_WORD), .val (.int 57), .val (.int 1)] [(.int 1)])) _
    refine XS.ifYes X2.here hx rfl (pc0 := 10) (pc' := 23) rfl (hb hby d2_10) rfl ((if0 _ _).trans (flt (by decide : ¬ ((1 : Int32) < (0 : Int32)))).2.1) (by decide) (by decide) ?_
    show Steps p.tables e below (T2.setTop (mkF m 23 #[.val (.ref w_WORD), .val (.int 57), .val (.int 1)] [])) _
    refine XS.iconst X2.here hx rfl (hb hby d2_23) ?_
    show Steps p.tables e below (T2.setTop (mkF m 24 #[.val (.ref w_WORD), .val (.int 57), .val (.int 1)] [(.int 1)])) _
    refine XS.goto X2.here hx rfl (pc0 := 24) (pc' := 28) rfl (hb hby d2_24) (by decide) (by decide) ?_
    show Steps p.tables e below (T2.setTop (mkF m 28 #[.val (.ref w_WORD), .val (.int 57), .val (.int 1)] [(.int 1)])) _
    exact retN X2 hx (t := .boolean) Bd.returns (by simp) (hb hby d2_28) hr
  · show Q2_w_WORD_57_all_WORD Z w_WORD r_WORD k_WORD h0 n0 _ T2.heap _
    rw [e2]
    exact ⟨(by rw [hret]), N2, rfl⟩
def Q4_r_WORD_0_8_x_57_65 (Z : State) (r_WORD : Addr) (x : Int32) (k_WORD : ClassId) (h0 : Heap) (n0 : Nat) (v : Option Value) (h : Heap) (L : List Loc) : Prop := v = some (.int (-3)) ∧ Fr n0 L ∧ h = h0
set_option maxRecDepth 65536 in
set_option maxHeartbeats 40000000 in
theorem rm4_r_WORD_0_8_x_57_65 (l : Launch) (Z : State) (a0 : Array Value) (hw : ∀ d ∈ tables_1, d.before a0 Z = true) (ws : List Jvm.Cond) (r_WORD : Addr) (x : Int32) (k_WORD : ClassId) (h0 : Heap) (n0 : Nat) (Z0 : n0 ≤ h0.size) (hhi_x : x < (65 : Int32)) (V_r_WORD : Arv Z h0 r_WORD k_WORD .int (8 : Int32) [(.int 48), (.int 57), (.int 65), (.int 90), (.int 95), (.int 95), (.int 97), (.int 122)] (.int (0 : Int32))) (hlo_x : (57 : Int32) < x) :
    MetFree l (⟨"java/util/Arrays", "binarySearch0", "([IIII)I"⟩ : MethodName) (head1 (Jvm.Cond.code (⟨"java/util/Arrays", "binarySearch0", "([IIII)I"⟩ : MethodName) jdk_65_method_59_code 8 (some .int) :: ws) ({ frames := 0, cells := 0, slots := 0, locals := 0 } : Room)) (fun a U => a = #[(.ref r_WORD), (.int 0), (.int 8), (.int x)] ∧ Z.Warmed39 U.vm ∧ U.heap = h0) (fun _ _ _ _ _ => True) (fun _ U o U' => ∃ v L, o = .returned v ∧ Q4_r_WORD_0_8_x_57_65 Z r_WORD x k_WORD h0 n0 v U'.heap L ∧ FrameEnd U o U' L ({ frames := 0, cells := 0, slots := 0, locals := 0 } : Room).cells ({ frames := 0, cells := 0, slots := 0, locals := 0 } : Room).slots) := by
  refine MetFree.of_bodySF (plainFor_of_name pn_4) hisR ?_
  intro p e s m args below meth c s₁ Bd hml0 hP hK
  obtain ⟨rfl, hZ, hh⟩ := hP
  have hx := Bd.exec
  have hby := Bd.bytes
  have hml : c.maxLocals = 8 := hml0
  have hown : s.vm.findClass "java/util/Arrays" = some m.cls := findClass_of_methodNamed Bd.named
  have hnm := (name_of_methodNamed Bd.named Bd.method).1
  have X0 : Stand p l e ({ frames := 0, cells := 0, slots := 0, locals := 0 } : Room) s m #[(.ref r_WORD), (.int 0), (.int 8), (.int x)] below meth c s₁ [] 0 0 := Stand.of_body Bd
  have e0 : s₁.heap = h0 := by rw [← hh, Bd.state]; rfl
  have N0 := Fr.nil n0
  have pre0 : ∀ t, Steps p.tables e below (s₁.setTop (mkF m 0 #[.val (.ref r_WORD), .val (.int 0), .val (.int 8), .val (.int x), .unset, .unset, .unset, .unset] [])) t → Steps p.tables e below (s₁.setTop (entryFrame m #[(.ref r_WORD), (.int 0), (.int 8), (.int x)] 8)) t := fun t k => castTop (by first | (simp [entryFrame, mkF, argsToLocals, Value.category]; done) | rfl) k
  obtain ⟨fs, hr, hrun, hended, hW, hsame⟩ := X0.leave (v := some (.int (-3))) (fun h => by rw [Bd.returns] at h; cases h)
  refine ⟨_, _, pre0 _ ?_, hrun, hended, _, _, rfl, ?_, ⟨_, rfl⟩, hW, hsame.mono (by decide) (by decide)⟩
  · show Steps p.tables e below (s₁.setTop (mkF m 0 #[.val (.ref r_WORD), .val (.int 0), .val (.int 8), .val (.int x), .unset, .unset, .unset, .unset] [])) _
    refine XS.iloadN X0.here hx rfl (hb hby d4_0) rfl ?_
    show Steps p.tables e below (s₁.setTop (mkF m 1 #[.val (.ref r_WORD), .val (.int 0), .val (.int 8), .val (.int x), .unset, .unset, .unset, .unset] [(.int 0)])) _
    refine XS.istore X0.here hx rfl (hb hby d4_1) rfl (l' := #[.val (.ref r_WORD), .val (.int 0), .val (.int 8), .val (.int x), .val (.int 0), .unset, .unset, .unset]) rfl ?_
    show Steps p.tables e below (s₁.setTop (mkF m 3 #[.val (.ref r_WORD), .val (.int 0), .val (.int 8), .val (.int x), .val (.int 0), .unset, .unset, .unset] [])) _
    refine XS.iloadN X0.here hx rfl (hb hby d4_3) rfl ?_
    show Steps p.tables e below (s₁.setTop (mkF m 4 #[.val (.ref r_WORD), .val (.int 0), .val (.int 8), .val (.int x), .val (.int 0), .unset, .unset, .unset] [(.int 8)])) _
    refine XS.iconst X0.here hx rfl (hb hby d4_4) ?_
    show Steps p.tables e below (s₁.setTop (mkF m 5 #[.val (.ref r_WORD), .val (.int 0), .val (.int 8), .val (.int x), .val (.int 0), .unset, .unset, .unset] [(.int 1), (.int 8)])) _
    refine XS.isub X0.here hx rfl (hb hby d4_5) rfl ?_
    show Steps p.tables e below (s₁.setTop (mkF m 6 #[.val (.ref r_WORD), .val (.int 0), .val (.int 8), .val (.int x), .val (.int 0), .unset, .unset, .unset] [(.int ((8 : Int32) - (1 : Int32)))])) _
    rw [(by decide : ((8 : Int32) - (1 : Int32)) = (7 : Int32))]
    show Steps p.tables e below (s₁.setTop (mkF m 6 #[.val (.ref r_WORD), .val (.int 0), .val (.int 8), .val (.int x), .val (.int 0), .unset, .unset, .unset] [(.int 7)])) _
    refine XS.istore X0.here hx rfl (hb hby d4_6) rfl (l' := #[.val (.ref r_WORD), .val (.int 0), .val (.int 8), .val (.int x), .val (.int 0), .val (.int 7), .unset, .unset]) rfl ?_
    show Steps p.tables e below (s₁.setTop (mkF m 8 #[.val (.ref r_WORD), .val (.int 0), .val (.int 8), .val (.int x), .val (.int 0), .val (.int 7), .unset, .unset] [])) _
    refine tnGu r_WORD (0 : Int32) (8 : Int32) x (0 : Int32) (7 : Int32) (3 : Int32) k_WORD (8 : Int32) [(.int 48), (.int 57), (.int 65), (.int 90), (.int 95), (.int 95), (.int 97), (.int 122)] (.int (0 : Int32)) (90 : Int32) (2 : Int32) X0 hx hZ hby e0 (by decide) (by decide) V_r_WORD ⟨by decide, by decide⟩ rfl (own_ngt hhi_x (by decide)) (own_lt hhi_x (by decide)) (by decide) _ ?_
    show Steps p.tables e below (s₁.setTop (mkF m 8 #[.val (.ref r_WORD), .val (.int 0), .val (.int 8), .val (.int x), .val (.int 0), .val (.int 2), .val (.int 3), .val (.int 90)] [])) _
    refine tnLv r_WORD (0 : Int32) (8 : Int32) x (0 : Int32) (2 : Int32) (3 : Int32) (90 : Int32) (1 : Int32) k_WORD (8 : Int32) [(.int 48), (.int 57), (.int 65), (.int 90), (.int 95), (.int 95), (.int 97), (.int 122)] (.int (0 : Int32)) (57 : Int32) (2 : Int32) X0 hx hZ hby e0 (by decide) (by decide) V_r_WORD ⟨by decide, by decide⟩ rfl (own_gt hlo_x (by decide)) (by decide) _ ?_
    show Steps p.tables e below (s₁.setTop (mkF m 8 #[.val (.ref r_WORD), .val (.int 0), .val (.int 8), .val (.int x), .val (.int 2), .val (.int 2), .val (.int 1), .val (.int 57)] [])) _
    refine tnGv r_WORD (0 : Int32) (8 : Int32) x (2 : Int32) (2 : Int32) (1 : Int32) (57 : Int32) (2 : Int32) k_WORD (8 : Int32) [(.int 48), (.int 57), (.int 65), (.int 90), (.int 95), (.int 95), (.int 97), (.int 122)] (.int (0 : Int32)) (65 : Int32) (1 : Int32) X0 hx hZ hby e0 (by decide) (by decide) V_r_WORD ⟨by decide, by decide⟩ rfl (own_ngt hhi_x (by decide)) (own_lt hhi_x (by decide)) (by decide) _ ?_
    show Steps p.tables e below (s₁.setTop (mkF m 8 #[.val (.ref r_WORD), .val (.int 0), .val (.int 8), .val (.int x), .val (.int 2), .val (.int 1), .val (.int 2), .val (.int 65)] [])) _
    refine XS.iload X0.here hx rfl (hb hby d4_8) rfl ?_
    show Steps p.tables e below (s₁.setTop (mkF m 10 #[.val (.ref r_WORD), .val (.int 0), .val (.int 8), .val (.int x), .val (.int 2), .val (.int 1), .val (.int 2), .val (.int 65)] [(.int 2)])) _
    refine XS.iload X0.here hx rfl (hb hby d4_10) rfl ?_
    show Steps p.tables e below (s₁.setTop (mkF m 12 #[.val (.ref r_WORD), .val (.int 0), .val (.int 8), .val (.int x), .val (.int 2), .val (.int 1), .val (.int 2), .val (.int 65)] [(.int 1), (.int 2)])) _
    refine XS.icmpYes X0.here hx rfl (pc0 := 12) (pc' := 66) rfl (hb hby d4_12) rfl (tlt (by decide : (1 : Int32) < (2 : Int32))).2.2.1 (by decide) (by decide) ?_
    show Steps p.tables e below (s₁.setTop (mkF m 66 #[.val (.ref r_WORD), .val (.int 0), .val (.int 8), .val (.int x), .val (.int 2), .val (.int 1), .val (.int 2), .val (.int 65)] [])) _
    refine XS.iload X0.here hx rfl (hb hby d4_66) rfl ?_
    show Steps p.tables e below (s₁.setTop (mkF m 68 #[.val (.ref r_WORD), .val (.int 0), .val (.int 8), .val (.int x), .val (.int 2), .val (.int 1), .val (.int 2), .val (.int 65)] [(.int 2)])) _
    refine XS.iconst X0.here hx rfl (hb hby d4_68) ?_
    show Steps p.tables e below (s₁.setTop (mkF m 69 #[.val (.ref r_WORD), .val (.int 0), .val (.int 8), .val (.int x), .val (.int 2), .val (.int 1), .val (.int 2), .val (.int 65)] [(.int 1), (.int 2)])) _
    refine XS.iadd X0.here hx rfl (hb hby d4_69) rfl ?_
    show Steps p.tables e below (s₁.setTop (mkF m 70 #[.val (.ref r_WORD), .val (.int 0), .val (.int 8), .val (.int x), .val (.int 2), .val (.int 1), .val (.int 2), .val (.int 65)] [(.int ((2 : Int32) + (1 : Int32)))])) _
    rw [(by decide : ((2 : Int32) + (1 : Int32)) = (3 : Int32))]
    show Steps p.tables e below (s₁.setTop (mkF m 70 #[.val (.ref r_WORD), .val (.int 0), .val (.int 8), .val (.int x), .val (.int 2), .val (.int 1), .val (.int 2), .val (.int 65)] [(.int 3)])) _
    refine XS.ineg X0.here hx rfl (hb hby d4_70) rfl ?_
    show Steps p.tables e below (s₁.setTop (mkF m 71 #[.val (.ref r_WORD), .val (.int 0), .val (.int 8), .val (.int x), .val (.int 2), .val (.int 1), .val (.int 2), .val (.int 65)] [(.int (-(3 : Int32)))])) _
    rw [(by decide : (-(3 : Int32)) = (-3 : Int32))]
    show Steps p.tables e below (s₁.setTop (mkF m 71 #[.val (.ref r_WORD), .val (.int 0), .val (.int 8), .val (.int x), .val (.int 2), .val (.int 1), .val (.int 2), .val (.int 65)] [(.int (-3))])) _
    exact retI X0 hx Bd.returns (hb hby d4_71) hr
  · show Q4_r_WORD_0_8_x_57_65 Z r_WORD x k_WORD h0 n0 _ s₁.heap _
    rw [e0]
    exact ⟨rfl, N0, rfl⟩
def Q3_r_WORD_x_57_65 (Z : State) (r_WORD : Addr) (x : Int32) (k_WORD : ClassId) (h0 : Heap) (n0 : Nat) (v : Option Value) (h : Heap) (L : List Loc) : Prop := v = some (.int (-3)) ∧ Fr n0 L ∧ h = h0
set_option maxRecDepth 65536 in
set_option maxHeartbeats 40000000 in
theorem rm3_r_WORD_x_57_65 (l : Launch) (Z : State) (a0 : Array Value) (hw : ∀ d ∈ tables_1, d.before a0 Z = true) (ws : List Jvm.Cond) (r_WORD : Addr) (x : Int32) (k_WORD : ClassId) (h0 : Heap) (n0 : Nat) (Z0 : n0 ≤ h0.size) (V_r_WORD : Arv Z h0 r_WORD k_WORD .int (8 : Int32) [(.int 48), (.int 57), (.int 65), (.int 90), (.int 95), (.int 95), (.int 97), (.int 122)] (.int (0 : Int32))) (hhi_x : x < (65 : Int32)) (hlo_x : (57 : Int32) < x) :
    MetFree l (⟨"java/util/Arrays", "binarySearch", "([II)I"⟩ : MethodName) (head1 (Jvm.Cond.code (⟨"java/util/Arrays", "binarySearch", "([II)I"⟩ : MethodName) jdk_65_method_57_code 2 (some .int) :: ws) ({ frames := 1, cells := 0, slots := 0, locals := 19 } : Room)) (fun a U => a = #[(.ref r_WORD), (.int x)] ∧ Z.Warmed39 U.vm ∧ U.heap = h0) (fun _ _ _ _ _ => True) (fun _ U o U' => ∃ v L, o = .returned v ∧ Q3_r_WORD_x_57_65 Z r_WORD x k_WORD h0 n0 v U'.heap L ∧ FrameEnd U o U' L ({ frames := 1, cells := 0, slots := 0, locals := 19 } : Room).cells ({ frames := 1, cells := 0, slots := 0, locals := 19 } : Room).slots) := by
  refine MetFree.of_bodySF (plainFor_of_name pn_3) hisR ?_
  intro p e s m args below meth c s₁ Bd hml0 hP hK
  obtain ⟨rfl, hZ, hh⟩ := hP
  have hx := Bd.exec
  have hby := Bd.bytes
  have hml : c.maxLocals = 2 := hml0
  have hown : s.vm.findClass "java/util/Arrays" = some m.cls := findClass_of_methodNamed Bd.named
  have hnm := (name_of_methodNamed Bd.named Bd.method).1
  have X0 : Stand p l e ({ frames := 1, cells := 0, slots := 0, locals := 19 } : Room) s m #[(.ref r_WORD), (.int x)] below meth c s₁ [] 0 0 := Stand.of_body Bd
  have e0 : s₁.heap = h0 := by rw [← hh, Bd.state]; rfl
  have N0 := Fr.nil n0
  have pre0 : ∀ t, Steps p.tables e below (s₁.setTop (mkF m 0 #[.val (.ref r_WORD), .val (.int x)] [])) t → Steps p.tables e below (s₁.setTop (entryFrame m #[(.ref r_WORD), (.int x)] 2)) t := fun t k => castTop (by first | (simp [entryFrame, mkF, argsToLocals, Value.category]; done) | rfl) k
  obtain ⟨_, _, ⟨T1, L1, k1, n1⟩, -, X1, ⟨Lc1, hQ1, l1, y1, z1⟩, st1⟩ := Jvm.LawKit.callS X0 hx (y := (⟨"java/util/Arrays", "binarySearch0", "([IIII)I"⟩ : MethodName)) hown (mvT hZ (hw _ (List.mem_of_getElem? (i := 19) rfl))) (mvT hZ (hw _ (List.mem_of_getElem? (i := 20) rfl))) (mvT hZ (hw _ (List.mem_of_getElem? (i := 17) rfl))) (mvT hZ (hw _ (List.mem_of_getElem? (i := 21) rfl))) (by decide) (backOf (W := 0) (rm4_r_WORD_0_8_x_57_65 l Z a0 hw [] r_WORD x k_WORD h0 n0 Z0 hhi_x V_r_WORD hlo_x) hZ (hw _ (List.mem_of_getElem? (i := 21) rfl)) (hw _ (List.mem_of_getElem? (i := 17) rfl)) (by decide) (by decide)) (g := (mkF m 5 #[.val (.ref r_WORD), .val (.int x)] [(.int x), (.int 8), (.int 0), (.ref r_WORD)])) rfl (by rw [hml]; rfl) (argsL := [(.ref r_WORD), (.int 0), (.int 8), (.int x)]) (rest := []) (lenOf pd___IIII_I rfl) rfl (by show 2 * 0 + _ ≤ _; exact Nat.le_of_eq rfl) (hb hby d3_5) (fun _ _ => ⟨rfl, e0, (by decide : 0 + 0 ≤ _), (by decide : 0 + 0 ≤ _)⟩)
  dsimp only [Pt.U, Pt.locs, Pt.cells, Pt.slots] at X1 l1 y1 z1 st1 hQ1
  subst l1 y1 z1
  obtain ⟨rfl, N1q, e1⟩ := hQ1
  have N1 := Fr.app N0 N1q
  obtain ⟨fs, hr, hrun, hended, hW, hsame⟩ := X1.leave (v := some (.int (-3))) (fun h => by rw [Bd.returns] at h; cases h)
  refine ⟨_, _, pre0 _ ?_, hrun, hended, _, _, rfl, ?_, ⟨_, rfl⟩, hW, hsame.mono (by decide) (by decide)⟩
  · show Steps p.tables e below (s₁.setTop (mkF m 0 #[.val (.ref r_WORD), .val (.int x)] [])) _
    refine XS.aloadN X0.here hx rfl (hb hby d3_0) rfl rfl ?_
    show Steps p.tables e below (s₁.setTop (mkF m 1 #[.val (.ref r_WORD), .val (.int x)] [(.ref r_WORD)])) _
    refine XS.iconst X0.here hx rfl (hb hby d3_1) ?_
    show Steps p.tables e below (s₁.setTop (mkF m 2 #[.val (.ref r_WORD), .val (.int x)] [(.int 0), (.ref r_WORD)])) _
    refine XS.aloadN X0.here hx rfl (hb hby d3_2) rfl rfl ?_
    show Steps p.tables e below (s₁.setTop (mkF m 3 #[.val (.ref r_WORD), .val (.int x)] [(.ref r_WORD), (.int 0), (.ref r_WORD)])) _
    refine own_lenz X0 hx hZ e0 V_r_WORD (g := (mkF m 3 #[.val (.ref r_WORD), .val (.int x)] [(.ref r_WORD), (.int 0), (.ref r_WORD)])) rfl rfl (hb hby d3_3) _ ?_
    show Steps p.tables e below (s₁.setTop (mkF m 4 #[.val (.ref r_WORD), .val (.int x)] [(.int 8), (.int 0), (.ref r_WORD)])) _
    refine XS.iloadN X0.here hx rfl (hb hby d3_4) rfl ?_
    show Steps p.tables e below (s₁.setTop (mkF m 5 #[.val (.ref r_WORD), .val (.int x)] [(.int x), (.int 8), (.int 0), (.ref r_WORD)])) _
    refine st1 _ ?_
    show Steps p.tables e below (T1.setTop (mkF m 8 #[.val (.ref r_WORD), .val (.int x)] [(.int (-3))])) _
    exact retI X1 hx Bd.returns (hb hby d3_8) hr
  · show Q3_r_WORD_x_57_65 Z r_WORD x k_WORD h0 n0 _ T1.heap _
    rw [e1]
    exact ⟨rfl, N1, rfl⟩
def Q2_w_WORD_x_57_65_all_WORD (Z : State) (w_WORD : Addr) (x : Int32) (r_WORD : Addr) (k_WORD : ClassId) (h0 : Heap) (n0 : Nat) (v : Option Value) (h : Heap) (L : List Loc) : Prop := v = some (.int (own_w x)) ∧ Fr n0 L ∧ h = h0
set_option maxRecDepth 65536 in
set_option maxHeartbeats 40000000 in
theorem rm2_w_WORD_x_57_65_all_WORD (l : Launch) (Z : State) (a0 : Array Value) (hw : ∀ d ∈ tables_1, d.before a0 Z = true) (ws : List Jvm.Cond) (w_WORD : Addr) (x : Int32) (r_WORD : Addr) (k_WORD : ClassId) (h0 : Heap) (n0 : Nat) (Z0 : n0 ≤ h0.size) (F_ranges_w_WORD : Fld Z h0 w_WORD "com/example/termwell/termwell/core/text/CodePointSet" "ranges" "[I" (.ref r_WORD)) (V_r_WORD : Arv Z h0 r_WORD k_WORD .int (8 : Int32) [(.int 48), (.int 57), (.int 65), (.int 90), (.int 95), (.int 95), (.int 97), (.int 122)] (.int (0 : Int32))) (hhi_x : x < (65 : Int32)) (hlo_x : (57 : Int32) < x) (hret : (own_w x) = (0 : Int32)) :
    MetFree l (⟨"com/example/termwell/termwell/core/text/CodePointSet", "contains", "(I)Z"⟩ : MethodName) (head1 (Jvm.Cond.code (⟨"com/example/termwell/termwell/core/text/CodePointSet", "contains", "(I)Z"⟩ : MethodName) prog_19_method_4_code 3 (some .boolean) :: ws) ({ frames := 2, cells := 0, slots := 0, locals := 32 } : Room)) (fun a U => a = #[(.ref w_WORD), (.int x)] ∧ Z.Warmed39 U.vm ∧ U.heap = h0) (fun _ _ _ _ _ => True) (fun _ U o U' => ∃ v L, o = .returned v ∧ Q2_w_WORD_x_57_65_all_WORD Z w_WORD x r_WORD k_WORD h0 n0 v U'.heap L ∧ FrameEnd U o U' L ({ frames := 2, cells := 0, slots := 0, locals := 32 } : Room).cells ({ frames := 2, cells := 0, slots := 0, locals := 32 } : Room).slots) := by
  refine MetFree.of_bodySF (plainFor_of_name pn_2) hisR ?_
  intro p e s m args below meth c s₁ Bd hml0 hP hK
  obtain ⟨rfl, hZ, hh⟩ := hP
  have hx := Bd.exec
  have hby := Bd.bytes
  have hml : c.maxLocals = 3 := hml0
  have hown : s.vm.findClass "com/example/termwell/termwell/core/text/CodePointSet" = some m.cls := findClass_of_methodNamed Bd.named
  have hnm := (name_of_methodNamed Bd.named Bd.method).1
  have X0 : Stand p l e ({ frames := 2, cells := 0, slots := 0, locals := 32 } : Room) s m #[(.ref w_WORD), (.int x)] below meth c s₁ [] 0 0 := Stand.of_body Bd
  have e0 : s₁.heap = h0 := by rw [← hh, Bd.state]; rfl
  have N0 := Fr.nil n0
  have pre0 : ∀ t, Steps p.tables e below (s₁.setTop (mkF m 0 #[.val (.ref w_WORD), .val (.int x), .unset] [])) t → Steps p.tables e below (s₁.setTop (entryFrame m #[(.ref w_WORD), (.int x)] 3)) t := fun t k => castTop (by first | (simp [entryFrame, mkF, argsToLocals, Value.category]; done) | rfl) k
  obtain ⟨T1, X1, e1, st1⟩ := getF X0 hx hZ hown (host := "") (Or.inl (hw _ (List.mem_of_getElem? (i := 13) rfl))) Via.refl e0 F_ranges_w_WORD (g := (mkF m 1 #[.val (.ref w_WORD), .val (.int x), .unset] [(.ref w_WORD)])) rfl rfl (hb hby d2_1)
  obtain ⟨_, _, ⟨T2, L2, k2, n2⟩, -, X2, ⟨Lc2, hQ2, l2, y2, z2⟩, st2⟩ := Jvm.LawKit.callS X1 hx (y := (⟨"java/util/Arrays", "binarySearch", "([II)I"⟩ : MethodName)) hown (mvT hZ (hw _ (List.mem_of_getElem? (i := 15) rfl))) (mvT hZ (hw _ (List.mem_of_getElem? (i := 16) rfl))) (mvT hZ (hw _ (List.mem_of_getElem? (i := 17) rfl))) (mvT hZ (hw _ (List.mem_of_getElem? (i := 18) rfl))) (by decide) (backOf (W := 0) (rm3_r_WORD_x_57_65 l Z a0 hw [] r_WORD x k_WORD h0 n0 Z0 V_r_WORD hhi_x hlo_x) hZ (hw _ (List.mem_of_getElem? (i := 18) rfl)) (hw _ (List.mem_of_getElem? (i := 17) rfl)) (by decide) (by decide)) (g := (mkF m 5 #[.val (.ref w_WORD), .val (.int x), .unset] [(.int x), (.ref r_WORD)])) rfl (by rw [hml]; rfl) (argsL := [(.ref r_WORD), (.int x)]) (rest := []) (lenOf pd___II_I rfl) rfl (by show 2 * 0 + _ ≤ _; exact Nat.le_of_eq rfl) (hb hby d2_5) (fun _ _ => ⟨rfl, e1, (by decide : 0 + 0 ≤ _), (by decide : 0 + 0 ≤ _)⟩)
  dsimp only [Pt.U, Pt.locs, Pt.cells, Pt.slots] at X2 l2 y2 z2 st2 hQ2
  subst l2 y2 z2
  obtain ⟨rfl, N2q, e2⟩ := hQ2
  have N2 := Fr.app N0 N2q
  obtain ⟨fs, hr, hrun, hended, hW, hsame⟩ := X2.leave (v := some (.int 0)) (fun h => by rw [Bd.returns] at h; cases h)
  refine ⟨_, _, pre0 _ ?_, hrun, hended, _, _, rfl, ?_, ⟨_, rfl⟩, hW, hsame.mono (by decide) (by decide)⟩
  · show Steps p.tables e below (s₁.setTop (mkF m 0 #[.val (.ref w_WORD), .val (.int x), .unset] [])) _
    refine XS.aloadN X0.here hx rfl (hb hby d2_0) rfl rfl ?_
    show Steps p.tables e below (s₁.setTop (mkF m 1 #[.val (.ref w_WORD), .val (.int x), .unset] [(.ref w_WORD)])) _
    refine st1 _ ?_
    show Steps p.tables e below (T1.setTop (mkF m 4 #[.val (.ref w_WORD), .val (.int x), .unset] [(.ref r_WORD)])) _
    refine XS.iloadN X1.here hx rfl (hb hby d2_4) rfl ?_
    show Steps p.tables e below (T1.setTop (mkF m 5 #[.val (.ref w_WORD), .val (.int x), .unset] [(.int x), (.ref r_WORD)])) _
    refine st2 _ ?_
    show Steps p.tables e below (T2.setTop (mkF m 8 #[.val (.ref w_WORD), .val (.int x), .unset] [(.int (-3))])) _
    refine XS.istoreN X2.here hx rfl (hb hby d2_8) rfl (l' := #[.val (.ref w_WORD), .val (.int x), .val (.int (-3))]) rfl ?_
    show Steps p.tables e below (T2.setTop (mkF m 9 #[.val (.ref w_WORD), .val (.int x), .val (.int (-3))] [])) _
    refine XS.iloadN X2.here hx rfl (hb hby d2_9) rfl ?_
    show Steps p.tables e below (T2.setTop (mkF m 10 #[.val (.ref w_WORD), .val (.int x), .val (.int (-3))] [(.int (-3))])) _
    refine XS.ifNo X2.here hx rfl (hb hby d2_10) rfl ((if0 _ _).trans (tlt (by decide : (-3 : Int32) < (0 : Int32))).2.1) ?_
    show Steps p.tables e below (T2.setTop (mkF m 13 #[.val (.ref w_WORD), .val (.int x), .val (.int (-3))] [])) _
    refine XS.iloadN X2.here hx rfl (hb hby d2_13) rfl ?_
    show Steps p.tables e below (T2.setTop (mkF m 14 #[.val (.ref w_WORD), .val (.int x), .val (.int (-3))] [(.int (-3))])) _
    refine XS.ineg X2.here hx rfl (hb hby d2_14) rfl ?_
    show Steps p.tables e below (T2.setTop (mkF m 15 #[.val (.ref w_WORD), .val (.int x), .val (.int (-3))] [(.int (-(-3 : Int32)))])) _
    rw [(by decide : (-(-3 : Int32)) = (3 : Int32))]
    show Steps p.tables e below (T2.setTop (mkF m 15 #[.val (.ref w_WORD), .val (.int x), .val (.int (-3))] [(.int 3)])) _
    refine XS.iconst X2.here hx rfl (hb hby d2_15) ?_
    show Steps p.tables e below (T2.setTop (mkF m 16 #[.val (.ref w_WORD), .val (.int x), .val (.int (-3))] [(.int 1), (.int 3)])) _
    refine XS.isub X2.here hx rfl (hb hby d2_16) rfl ?_
    show Steps p.tables e below (T2.setTop (mkF m 17 #[.val (.ref w_WORD), .val (.int x), .val (.int (-3))] [(.int ((3 : Int32) - (1 : Int32)))])) _
    rw [(by decide : ((3 : Int32) - (1 : Int32)) = (2 : Int32))]
    show Steps p.tables e below (T2.setTop (mkF m 17 #[.val (.ref w_WORD), .val (.int x), .val (.int (-3))] [(.int 2)])) _
    refine XS.iconst X2.here hx rfl (hb hby d2_17) ?_
    show Steps p.tables e below (T2.setTop (mkF m 18 #[.val (.ref w_WORD), .val (.int x), .val (.int (-3))] [(.int 2), (.int 2)])) _
    refine iremM X2 hx rfl (hb hby d2_18) rfl (by decide) ?_
    show Steps p.tables e below (T2.setTop (mkF m 19 #[.val (.ref w_WORD), .val (.int x), .val (.int (-3))] [(.int ((2 : Int32) % (2 : Int32)))])) _
    rw [(by decide : ((2 : Int32) % (2 : Int32)) = (0 : Int32))]
    show Steps p.tables e below (T2.setTop (mkF m 19 #[.val (.ref w_WORD), .val (.int x), .val (.int (-3))] [(.int 0)])) _
    refine XS.iconst X2.here hx rfl (hb hby d2_19) ?_
    show Steps p.tables e below (T2.setTop (mkF m 20 #[.val (.ref w_WORD), .val (.int x), .val (.int (-3))] [(.int 1), (.int 0)])) _
    refine XS.icmpYes X2.here hx rfl (pc0 := 20) (pc' := 27) rfl (hb hby d2_20) rfl (feq (by decide : ¬ ((0 : Int32) = (1 : Int32)))).2 (by decide) (by decide) ?_
    show Steps p.tables e below (T2.setTop (mkF m 27 #[.val (.ref w_WORD), .val (.int x), .val (.int (-3))] [])) _
    refine XS.iconst X2.here hx rfl (hb hby d2_27) ?_
    show Steps p.tables e below (T2.setTop (mkF m 28 #[.val (.ref w_WORD), .val (.int x), .val (.int (-3))] [(.int 0)])) _
    exact retN X2 hx (t := .boolean) Bd.returns (by simp) (hb hby d2_28) hr
  · show Q2_w_WORD_x_57_65_all_WORD Z w_WORD x r_WORD k_WORD h0 n0 _ T2.heap _
    rw [e2]
    exact ⟨(by rw [hret]), N2, rfl⟩
def Q4_r_WORD_0_8_65 (Z : State) (r_WORD : Addr) (k_WORD : ClassId) (h0 : Heap) (n0 : Nat) (v : Option Value) (h : Heap) (L : List Loc) : Prop := v = some (.int 2) ∧ Fr n0 L ∧ h = h0
set_option maxRecDepth 65536 in
set_option maxHeartbeats 40000000 in
theorem rm4_r_WORD_0_8_65 (l : Launch) (Z : State) (a0 : Array Value) (hw : ∀ d ∈ tables_1, d.before a0 Z = true) (ws : List Jvm.Cond) (r_WORD : Addr) (k_WORD : ClassId) (h0 : Heap) (n0 : Nat) (Z0 : n0 ≤ h0.size) (V_r_WORD : Arv Z h0 r_WORD k_WORD .int (8 : Int32) [(.int 48), (.int 57), (.int 65), (.int 90), (.int 95), (.int 95), (.int 97), (.int 122)] (.int (0 : Int32))) :
    MetFree l (⟨"java/util/Arrays", "binarySearch0", "([IIII)I"⟩ : MethodName) (head1 (Jvm.Cond.code (⟨"java/util/Arrays", "binarySearch0", "([IIII)I"⟩ : MethodName) jdk_65_method_59_code 8 (some .int) :: ws) ({ frames := 0, cells := 0, slots := 0, locals := 0 } : Room)) (fun a U => a = #[(.ref r_WORD), (.int 0), (.int 8), (.int 65)] ∧ Z.Warmed39 U.vm ∧ U.heap = h0) (fun _ _ _ _ _ => True) (fun _ U o U' => ∃ v L, o = .returned v ∧ Q4_r_WORD_0_8_65 Z r_WORD k_WORD h0 n0 v U'.heap L ∧ FrameEnd U o U' L ({ frames := 0, cells := 0, slots := 0, locals := 0 } : Room).cells ({ frames := 0, cells := 0, slots := 0, locals := 0 } : Room).slots) := by
  refine MetFree.of_bodySF (plainFor_of_name pn_4) hisR ?_
  intro p e s m args below meth c s₁ Bd hml0 hP hK
  obtain ⟨rfl, hZ, hh⟩ := hP
  have hx := Bd.exec
  have hby := Bd.bytes
  have hml : c.maxLocals = 8 := hml0
  have hown : s.vm.findClass "java/util/Arrays" = some m.cls := findClass_of_methodNamed Bd.named
  have hnm := (name_of_methodNamed Bd.named Bd.method).1
  have X0 : Stand p l e ({ frames := 0, cells := 0, slots := 0, locals := 0 } : Room) s m #[(.ref r_WORD), (.int 0), (.int 8), (.int 65)] below meth c s₁ [] 0 0 := Stand.of_body Bd
  have e0 : s₁.heap = h0 := by rw [← hh, Bd.state]; rfl
  have N0 := Fr.nil n0
  have pre0 : ∀ t, Steps p.tables e below (s₁.setTop (mkF m 0 #[.val (.ref r_WORD), .val (.int 0), .val (.int 8), .val (.int 65), .unset, .unset, .unset, .unset] [])) t → Steps p.tables e below (s₁.setTop (entryFrame m #[(.ref r_WORD), (.int 0), (.int 8), (.int 65)] 8)) t := fun t k => castTop (by first | (simp [entryFrame, mkF, argsToLocals, Value.category]; done) | rfl) k
  obtain ⟨fs, hr, hrun, hended, hW, hsame⟩ := X0.leave (v := some (.int 2)) (fun h => by rw [Bd.returns] at h; cases h)
  refine ⟨_, _, pre0 _ ?_, hrun, hended, _, _, rfl, ?_, ⟨_, rfl⟩, hW, hsame.mono (by decide) (by decide)⟩
  · show Steps p.tables e below (s₁.setTop (mkF m 0 #[.val (.ref r_WORD), .val (.int 0), .val (.int 8), .val (.int 65), .unset, .unset, .unset, .unset] [])) _
    refine XS.iloadN X0.here hx rfl (hb hby d4_0) rfl ?_
    show Steps p.tables e below (s₁.setTop (mkF m 1 #[.val (.ref r_WORD), .val (.int 0), .val (.int 8), .val (.int 65), .unset, .unset, .unset, .unset] [(.int 0)])) _
    refine XS.istore X0.here hx rfl (hb hby d4_1) rfl (l' := #[.val (.ref r_WORD), .val (.int 0), .val (.int 8), .val (.int 65), .val (.int 0), .unset, .unset, .unset]) rfl ?_
    show Steps p.tables e below (s₁.setTop (mkF m 3 #[.val (.ref r_WORD), .val (.int 0), .val (.int 8), .val (.int 65), .val (.int 0), .unset, .unset, .unset] [])) _
    refine XS.iloadN X0.here hx rfl (hb hby d4_3) rfl ?_
    show Steps p.tables e below (s₁.setTop (mkF m 4 #[.val (.ref r_WORD), .val (.int 0), .val (.int 8), .val (.int 65), .val (.int 0), .unset, .unset, .unset] [(.int 8)])) _
    refine XS.iconst X0.here hx rfl (hb hby d4_4) ?_
    show Steps p.tables e below (s₁.setTop (mkF m 5 #[.val (.ref r_WORD), .val (.int 0), .val (.int 8), .val (.int 65), .val (.int 0), .unset, .unset, .unset] [(.int 1), (.int 8)])) _
    refine XS.isub X0.here hx rfl (hb hby d4_5) rfl ?_
    show Steps p.tables e below (s₁.setTop (mkF m 6 #[.val (.ref r_WORD), .val (.int 0), .val (.int 8), .val (.int 65), .val (.int 0), .unset, .unset, .unset] [(.int ((8 : Int32) - (1 : Int32)))])) _
    rw [(by decide : ((8 : Int32) - (1 : Int32)) = (7 : Int32))]
    show Steps p.tables e below (s₁.setTop (mkF m 6 #[.val (.ref r_WORD), .val (.int 0), .val (.int 8), .val (.int 65), .val (.int 0), .unset, .unset, .unset] [(.int 7)])) _
    refine XS.istore X0.here hx rfl (hb hby d4_6) rfl (l' := #[.val (.ref r_WORD), .val (.int 0), .val (.int 8), .val (.int 65), .val (.int 0), .val (.int 7), .unset, .unset]) rfl ?_
    show Steps p.tables e below (s₁.setTop (mkF m 8 #[.val (.ref r_WORD), .val (.int 0), .val (.int 8), .val (.int 65), .val (.int 0), .val (.int 7), .unset, .unset] [])) _
    refine tnGu r_WORD (0 : Int32) (8 : Int32) (65 : Int32) (0 : Int32) (7 : Int32) (3 : Int32) k_WORD (8 : Int32) [(.int 48), (.int 57), (.int 65), (.int 90), (.int 95), (.int 95), (.int 97), (.int 122)] (.int (0 : Int32)) (90 : Int32) (2 : Int32) X0 hx hZ hby e0 (by decide) (by decide) V_r_WORD ⟨by decide, by decide⟩ rfl (by decide) (by decide) (by decide) _ ?_
    show Steps p.tables e below (s₁.setTop (mkF m 8 #[.val (.ref r_WORD), .val (.int 0), .val (.int 8), .val (.int 65), .val (.int 0), .val (.int 2), .val (.int 3), .val (.int 90)] [])) _
    refine tnLv r_WORD (0 : Int32) (8 : Int32) (65 : Int32) (0 : Int32) (2 : Int32) (3 : Int32) (90 : Int32) (1 : Int32) k_WORD (8 : Int32) [(.int 48), (.int 57), (.int 65), (.int 90), (.int 95), (.int 95), (.int 97), (.int 122)] (.int (0 : Int32)) (57 : Int32) (2 : Int32) X0 hx hZ hby e0 (by decide) (by decide) V_r_WORD ⟨by decide, by decide⟩ rfl (by decide) (by decide) _ ?_
    show Steps p.tables e below (s₁.setTop (mkF m 8 #[.val (.ref r_WORD), .val (.int 0), .val (.int 8), .val (.int 65), .val (.int 2), .val (.int 2), .val (.int 1), .val (.int 57)] [])) _
    refine XS.iload X0.here hx rfl (hb hby d4_8) rfl ?_
    show Steps p.tables e below (s₁.setTop (mkF m 10 #[.val (.ref r_WORD), .val (.int 0), .val (.int 8), .val (.int 65), .val (.int 2), .val (.int 2), .val (.int 1), .val (.int 57)] [(.int 2)])) _
    refine XS.iload X0.here hx rfl (hb hby d4_10) rfl ?_
    show Steps p.tables e below (s₁.setTop (mkF m 12 #[.val (.ref r_WORD), .val (.int 0), .val (.int 8), .val (.int 65), .val (.int 2), .val (.int 2), .val (.int 1), .val (.int 57)] [(.int 2), (.int 2)])) _
    refine XS.icmpNo X0.here hx rfl (hb hby d4_12) rfl (flt (by decide : ¬ ((2 : Int32) < (2 : Int32)))).2.2.1 ?_
    show Steps p.tables e below (s₁.setTop (mkF m 15 #[.val (.ref r_WORD), .val (.int 0), .val (.int 8), .val (.int 65), .val (.int 2), .val (.int 2), .val (.int 1), .val (.int 57)] [])) _
    refine XS.iload X0.here hx rfl (hb hby d4_15) rfl ?_
    show Steps p.tables e below (s₁.setTop (mkF m 17 #[.val (.ref r_WORD), .val (.int 0), .val (.int 8), .val (.int 65), .val (.int 2), .val (.int 2), .val (.int 1), .val (.int 57)] [(.int 2)])) _
    refine XS.iload X0.here hx rfl (hb hby d4_17) rfl ?_
    show Steps p.tables e below (s₁.setTop (mkF m 19 #[.val (.ref r_WORD), .val (.int 0), .val (.int 8), .val (.int 65), .val (.int 2), .val (.int 2), .val (.int 1), .val (.int 57)] [(.int 2), (.int 2)])) _
    refine XS.iadd X0.here hx rfl (hb hby d4_19) rfl ?_
    show Steps p.tables e below (s₁.setTop (mkF m 20 #[.val (.ref r_WORD), .val (.int 0), .val (.int 8), .val (.int 65), .val (.int 2), .val (.int 2), .val (.int 1), .val (.int 57)] [(.int ((2 : Int32) + (2 : Int32)))])) _
    rw [(by decide : ((2 : Int32) + (2 : Int32)) = (4 : Int32))]
    show Steps p.tables e below (s₁.setTop (mkF m 20 #[.val (.ref r_WORD), .val (.int 0), .val (.int 8), .val (.int 65), .val (.int 2), .val (.int 2), .val (.int 1), .val (.int 57)] [(.int 4)])) _
    refine XS.iconst X0.here hx rfl (hb hby d4_20) ?_
    show Steps p.tables e below (s₁.setTop (mkF m 21 #[.val (.ref r_WORD), .val (.int 0), .val (.int 8), .val (.int 65), .val (.int 2), .val (.int 2), .val (.int 1), .val (.int 57)] [(.int 1), (.int 4)])) _
    refine XS.iushr X0.here hx rfl (hb hby d4_21) rfl ?_
    show Steps p.tables e below (s₁.setTop (mkF m 22 #[.val (.ref r_WORD), .val (.int 0), .val (.int 8), .val (.int 65), .val (.int 2), .val (.int 2), .val (.int 1), .val (.int 57)] [(.int (((4 : Int32).toUInt32 >>> ((1 : Int32) &&& 31).toUInt32).toInt32))])) _
    rw [(by decide : (((4 : Int32).toUInt32 >>> ((1 : Int32) &&& 31).toUInt32).toInt32) = (2 : Int32))]
    show Steps p.tables e below (s₁.setTop (mkF m 22 #[.val (.ref r_WORD), .val (.int 0), .val (.int 8), .val (.int 65), .val (.int 2), .val (.int 2), .val (.int 1), .val (.int 57)] [(.int 2)])) _
    refine XS.istore X0.here hx rfl (hb hby d4_22) rfl (l' := #[.val (.ref r_WORD), .val (.int 0), .val (.int 8), .val (.int 65), .val (.int 2), .val (.int 2), .val (.int 2), .val (.int 57)]) rfl ?_
    show Steps p.tables e below (s₁.setTop (mkF m 24 #[.val (.ref r_WORD), .val (.int 0), .val (.int 8), .val (.int 65), .val (.int 2), .val (.int 2), .val (.int 2), .val (.int 57)] [])) _
    refine XS.aloadN X0.here hx rfl (hb hby d4_24) rfl rfl ?_
    show Steps p.tables e below (s₁.setTop (mkF m 25 #[.val (.ref r_WORD), .val (.int 0), .val (.int 8), .val (.int 65), .val (.int 2), .val (.int 2), .val (.int 2), .val (.int 57)] [(.ref r_WORD)])) _
    refine XS.iload X0.here hx rfl (hb hby d4_25) rfl ?_
    show Steps p.tables e below (s₁.setTop (mkF m 27 #[.val (.ref r_WORD), .val (.int 0), .val (.int 8), .val (.int 65), .val (.int 2), .val (.int 2), .val (.int 2), .val (.int 57)] [(.int 2), (.ref r_WORD)])) _
    refine own_ldI X0 hx hZ e0 V_r_WORD (j := (2 : Int32)) ⟨by decide, by decide⟩ rfl (g := (mkF m 27 #[.val (.ref r_WORD), .val (.int 0), .val (.int 8), .val (.int 65), .val (.int 2), .val (.int 2), .val (.int 2), .val (.int 57)] [(.int 2), (.ref r_WORD)])) rfl rfl (hb hby d4_27) _ ?_
    show Steps p.tables e below (s₁.setTop (mkF m 28 #[.val (.ref r_WORD), .val (.int 0), .val (.int 8), .val (.int 65), .val (.int 2), .val (.int 2), .val (.int 2), .val (.int 57)] [(.int 65)])) _
    refine XS.istore X0.here hx rfl (hb hby d4_28) rfl (l' := #[.val (.ref r_WORD), .val (.int 0), .val (.int 8), .val (.int 65), .val (.int 2), .val (.int 2), .val (.int 2), .val (.int 65)]) rfl ?_
    show Steps p.tables e below (s₁.setTop (mkF m 30 #[.val (.ref r_WORD), .val (.int 0), .val (.int 8), .val (.int 65), .val (.int 2), .val (.int 2), .val (.int 2), .val (.int 65)] [])) _
    refine XS.iload X0.here hx rfl (hb hby d4_30) rfl ?_
    show Steps p.tables e below (s₁.setTop (mkF m 32 #[.val (.ref r_WORD), .val (.int 0), .val (.int 8), .val (.int 65), .val (.int 2), .val (.int 2), .val (.int 2), .val (.int 65)] [(.int 65)])) _
    refine XS.iloadN X0.here hx rfl (hb hby d4_32) rfl ?_
    show Steps p.tables e below (s₁.setTop (mkF m 33 #[.val (.ref r_WORD), .val (.int 0), .val (.int 8), .val (.int 65), .val (.int 2), .val (.int 2), .val (.int 2), .val (.int 65)] [(.int 65), (.int 65)])) _
    refine XS.icmpYes X0.here hx rfl (pc0 := 33) (pc' := 45) rfl (hb hby d4_33) rfl (flt (by decide : ¬ ((65 : Int32) < (65 : Int32)))).2.1 (by decide) (by decide) ?_
    show Steps p.tables e below (s₁.setTop (mkF m 45 #[.val (.ref r_WORD), .val (.int 0), .val (.int 8), .val (.int 65), .val (.int 2), .val (.int 2), .val (.int 2), .val (.int 65)] [])) _
    refine XS.iload X0.here hx rfl (hb hby d4_45) rfl ?_
    show Steps p.tables e below (s₁.setTop (mkF m 47 #[.val (.ref r_WORD), .val (.int 0), .val (.int 8), .val (.int 65), .val (.int 2), .val (.int 2), .val (.int 2), .val (.int 65)] [(.int 65)])) _
    refine XS.iloadN X0.here hx rfl (hb hby d4_47) rfl ?_
    show Steps p.tables e below (s₁.setTop (mkF m 48 #[.val (.ref r_WORD), .val (.int 0), .val (.int 8), .val (.int 65), .val (.int 2), .val (.int 2), .val (.int 2), .val (.int 65)] [(.int 65), (.int 65)])) _
    refine XS.icmpYes X0.here hx rfl (pc0 := 48) (pc' := 60) rfl (hb hby d4_48) rfl (flt (by decide : ¬ ((65 : Int32) < (65 : Int32)))).2.2.2 (by decide) (by decide) ?_
    show Steps p.tables e below (s₁.setTop (mkF m 60 #[.val (.ref r_WORD), .val (.int 0), .val (.int 8), .val (.int 65), .val (.int 2), .val (.int 2), .val (.int 2), .val (.int 65)] [])) _
    refine XS.iload X0.here hx rfl (hb hby d4_60) rfl ?_
    show Steps p.tables e below (s₁.setTop (mkF m 62 #[.val (.ref r_WORD), .val (.int 0), .val (.int 8), .val (.int 65), .val (.int 2), .val (.int 2), .val (.int 2), .val (.int 65)] [(.int 2)])) _
    exact retI X0 hx Bd.returns (hb hby d4_62) hr
  · show Q4_r_WORD_0_8_65 Z r_WORD k_WORD h0 n0 _ s₁.heap _
    rw [e0]
    exact ⟨rfl, N0, rfl⟩
def Q3_r_WORD_65 (Z : State) (r_WORD : Addr) (k_WORD : ClassId) (h0 : Heap) (n0 : Nat) (v : Option Value) (h : Heap) (L : List Loc) : Prop := v = some (.int 2) ∧ Fr n0 L ∧ h = h0
set_option maxRecDepth 65536 in
set_option maxHeartbeats 40000000 in
theorem rm3_r_WORD_65 (l : Launch) (Z : State) (a0 : Array Value) (hw : ∀ d ∈ tables_1, d.before a0 Z = true) (ws : List Jvm.Cond) (r_WORD : Addr) (k_WORD : ClassId) (h0 : Heap) (n0 : Nat) (Z0 : n0 ≤ h0.size) (V_r_WORD : Arv Z h0 r_WORD k_WORD .int (8 : Int32) [(.int 48), (.int 57), (.int 65), (.int 90), (.int 95), (.int 95), (.int 97), (.int 122)] (.int (0 : Int32))) :
    MetFree l (⟨"java/util/Arrays", "binarySearch", "([II)I"⟩ : MethodName) (head1 (Jvm.Cond.code (⟨"java/util/Arrays", "binarySearch", "([II)I"⟩ : MethodName) jdk_65_method_57_code 2 (some .int) :: ws) ({ frames := 1, cells := 0, slots := 0, locals := 19 } : Room)) (fun a U => a = #[(.ref r_WORD), (.int 65)] ∧ Z.Warmed39 U.vm ∧ U.heap = h0) (fun _ _ _ _ _ => True) (fun _ U o U' => ∃ v L, o = .returned v ∧ Q3_r_WORD_65 Z r_WORD k_WORD h0 n0 v U'.heap L ∧ FrameEnd U o U' L ({ frames := 1, cells := 0, slots := 0, locals := 19 } : Room).cells ({ frames := 1, cells := 0, slots := 0, locals := 19 } : Room).slots) := by
  refine MetFree.of_bodySF (plainFor_of_name pn_3) hisR ?_
  intro p e s m args below meth c s₁ Bd hml0 hP hK
  obtain ⟨rfl, hZ, hh⟩ := hP
  have hx := Bd.exec
  have hby := Bd.bytes
  have hml : c.maxLocals = 2 := hml0
  have hown : s.vm.findClass "java/util/Arrays" = some m.cls := findClass_of_methodNamed Bd.named
  have hnm := (name_of_methodNamed Bd.named Bd.method).1
  have X0 : Stand p l e ({ frames := 1, cells := 0, slots := 0, locals := 19 } : Room) s m #[(.ref r_WORD), (.int 65)] below meth c s₁ [] 0 0 := Stand.of_body Bd
  have e0 : s₁.heap = h0 := by rw [← hh, Bd.state]; rfl
  have N0 := Fr.nil n0
  have pre0 : ∀ t, Steps p.tables e below (s₁.setTop (mkF m 0 #[.val (.ref r_WORD), .val (.int 65)] [])) t → Steps p.tables e below (s₁.setTop (entryFrame m #[(.ref r_WORD), (.int 65)] 2)) t := fun t k => castTop (by first | (simp [entryFrame, mkF, argsToLocals, Value.category]; done) | rfl) k
  obtain ⟨_, _, ⟨T1, L1, k1, n1⟩, -, X1, ⟨Lc1, hQ1, l1, y1, z1⟩, st1⟩ := Jvm.LawKit.callS X0 hx (y := (⟨"java/util/Arrays", "binarySearch0", "([IIII)I"⟩ : MethodName)) hown (mvT hZ (hw _ (List.mem_of_getElem? (i := 19) rfl))) (mvT hZ (hw _ (List.mem_of_getElem? (i := 20) rfl))) (mvT hZ (hw _ (List.mem_of_getElem? (i := 17) rfl))) (mvT hZ (hw _ (List.mem_of_getElem? (i := 21) rfl))) (by decide) (backOf (W := 0) (rm4_r_WORD_0_8_65 l Z a0 hw [] r_WORD k_WORD h0 n0 Z0 V_r_WORD) hZ (hw _ (List.mem_of_getElem? (i := 21) rfl)) (hw _ (List.mem_of_getElem? (i := 17) rfl)) (by decide) (by decide)) (g := (mkF m 5 #[.val (.ref r_WORD), .val (.int 65)] [(.int 65), (.int 8), (.int 0), (.ref r_WORD)])) rfl (by rw [hml]; rfl) (argsL := [(.ref r_WORD), (.int 0), (.int 8), (.int 65)]) (rest := []) (lenOf pd___IIII_I rfl) rfl (by show 2 * 0 + _ ≤ _; exact Nat.le_of_eq rfl) (hb hby d3_5) (fun _ _ => ⟨rfl, e0, (by decide : 0 + 0 ≤ _), (by decide : 0 + 0 ≤ _)⟩)
  dsimp only [Pt.U, Pt.locs, Pt.cells, Pt.slots] at X1 l1 y1 z1 st1 hQ1
  subst l1 y1 z1
  obtain ⟨rfl, N1q, e1⟩ := hQ1
  have N1 := Fr.app N0 N1q
  obtain ⟨fs, hr, hrun, hended, hW, hsame⟩ := X1.leave (v := some (.int 2)) (fun h => by rw [Bd.returns] at h; cases h)
  refine ⟨_, _, pre0 _ ?_, hrun, hended, _, _, rfl, ?_, ⟨_, rfl⟩, hW, hsame.mono (by decide) (by decide)⟩
  · show Steps p.tables e below (s₁.setTop (mkF m 0 #[.val (.ref r_WORD), .val (.int 65)] [])) _
    refine XS.aloadN X0.here hx rfl (hb hby d3_0) rfl rfl ?_
    show Steps p.tables e below (s₁.setTop (mkF m 1 #[.val (.ref r_WORD), .val (.int 65)] [(.ref r_WORD)])) _
    refine XS.iconst X0.here hx rfl (hb hby d3_1) ?_
    show Steps p.tables e below (s₁.setTop (mkF m 2 #[.val (.ref r_WORD), .val (.int 65)] [(.int 0), (.ref r_WORD)])) _
    refine XS.aloadN X0.here hx rfl (hb hby d3_2) rfl rfl ?_
    show Steps p.tables e below (s₁.setTop (mkF m 3 #[.val (.ref r_WORD), .val (.int 65)] [(.ref r_WORD), (.int 0), (.ref r_WORD)])) _
    refine own_lenz X0 hx hZ e0 V_r_WORD (g := (mkF m 3 #[.val (.ref r_WORD), .val (.int 65)] [(.ref r_WORD), (.int 0), (.ref r_WORD)])) rfl rfl (hb hby d3_3) _ ?_
    show Steps p.tables e below (s₁.setTop (mkF m 4 #[.val (.ref r_WORD), .val (.int 65)] [(.int 8), (.int 0), (.ref r_WORD)])) _
    refine XS.iloadN X0.here hx rfl (hb hby d3_4) rfl ?_
    show Steps p.tables e below (s₁.setTop (mkF m 5 #[.val (.ref r_WORD), .val (.int 65)] [(.int 65), (.int 8), (.int 0), (.ref r_WORD)])) _
    refine st1 _ ?_
    show Steps p.tables e below (T1.setTop (mkF m 8 #[.val (.ref r_WORD), .val (.int 65)] [(.int 2)])) _
    exact retI X1 hx Bd.returns (hb hby d3_8) hr
  · show Q3_r_WORD_65 Z r_WORD k_WORD h0 n0 _ T1.heap _
    rw [e1]
    exact ⟨rfl, N1, rfl⟩
def Q2_w_WORD_65_all_WORD (Z : State) (w_WORD : Addr) (r_WORD : Addr) (k_WORD : ClassId) (h0 : Heap) (n0 : Nat) (v : Option Value) (h : Heap) (L : List Loc) : Prop := v = some (.int (own_w (65 : Int32))) ∧ Fr n0 L ∧ h = h0
set_option maxRecDepth 65536 in
set_option maxHeartbeats 40000000 in
theorem rm2_w_WORD_65_all_WORD (l : Launch) (Z : State) (a0 : Array Value) (hw : ∀ d ∈ tables_1, d.before a0 Z = true) (ws : List Jvm.Cond) (w_WORD : Addr) (r_WORD : Addr) (k_WORD : ClassId) (h0 : Heap) (n0 : Nat) (Z0 : n0 ≤ h0.size) (F_ranges_w_WORD : Fld Z h0 w_WORD "com/example/termwell/termwell/core/text/CodePointSet" "ranges" "[I" (.ref r_WORD)) (V_r_WORD : Arv Z h0 r_WORD k_WORD .int (8 : Int32) [(.int 48), (.int 57), (.int 65), (.int 90), (.int 95), (.int 95), (.int 97), (.int 122)] (.int (0 : Int32))) (hret : (own_w (65 : Int32)) = (1 : Int32)) :
    MetFree l (⟨"com/example/termwell/termwell/core/text/CodePointSet", "contains", "(I)Z"⟩ : MethodName) (head1 (Jvm.Cond.code (⟨"com/example/termwell/termwell/core/text/CodePointSet", "contains", "(I)Z"⟩ : MethodName) prog_19_method_4_code 3 (some .boolean) :: ws) ({ frames := 2, cells := 0, slots := 0, locals := 32 } : Room)) (fun a U => a = #[(.ref w_WORD), (.int 65)] ∧ Z.Warmed39 U.vm ∧ U.heap = h0) (fun _ _ _ _ _ => True) (fun _ U o U' => ∃ v L, o = .returned v ∧ Q2_w_WORD_65_all_WORD Z w_WORD r_WORD k_WORD h0 n0 v U'.heap L ∧ FrameEnd U o U' L ({ frames := 2, cells := 0, slots := 0, locals := 32 } : Room).cells ({ frames := 2, cells := 0, slots := 0, locals := 32 } : Room).slots) := by
  refine MetFree.of_bodySF (plainFor_of_name pn_2) hisR ?_
  intro p e s m args below meth c s₁ Bd hml0 hP hK
  obtain ⟨rfl, hZ, hh⟩ := hP
  have hx := Bd.exec
  have hby := Bd.bytes
  have hml : c.maxLocals = 3 := hml0
  have hown : s.vm.findClass "com/example/termwell/termwell/core/text/CodePointSet" = some m.cls := findClass_of_methodNamed Bd.named
  have hnm := (name_of_methodNamed Bd.named Bd.method).1
  have X0 : Stand p l e ({ frames := 2, cells := 0, slots := 0, locals := 32 } : Room) s m #[(.ref w_WORD), (.int 65)] below meth c s₁ [] 0 0 := Stand.of_body Bd
  have e0 : s₁.heap = h0 := by rw [← hh, Bd.state]; rfl
  have N0 := Fr.nil n0
  have pre0 : ∀ t, Steps p.tables e below (s₁.setTop (mkF m 0 #[.val (.ref w_WORD), .val (.int 65), .unset] [])) t → Steps p.tables e below (s₁.setTop (entryFrame m #[(.ref w_WORD), (.int 65)] 3)) t := fun t k => castTop (by first | (simp [entryFrame, mkF, argsToLocals, Value.category]; done) | rfl) k
  obtain ⟨T1, X1, e1, st1⟩ := getF X0 hx hZ hown (host := "") (Or.inl (hw _ (List.mem_of_getElem? (i := 13) rfl))) Via.refl e0 F_ranges_w_WORD (g := (mkF m 1 #[.val (.ref w_WORD), .val (.int 65), .unset] [(.ref w_WORD)])) rfl rfl (hb hby d2_1)
  obtain ⟨_, _, ⟨T2, L2, k2, n2⟩, -, X2, ⟨Lc2, hQ2, l2, y2, z2⟩, st2⟩ := Jvm.LawKit.callS X1 hx (y := (⟨"java/util/Arrays", "binarySearch", "([II)I"⟩ : MethodName)) hown (mvT hZ (hw _ (List.mem_of_getElem? (i := 15) rfl))) (mvT hZ (hw _ (List.mem_of_getElem? (i := 16) rfl))) (mvT hZ (hw _ (List.mem_of_getElem? (i := 17) rfl))) (mvT hZ (hw _ (List.mem_of_getElem? (i := 18) rfl))) (by decide) (backOf (W := 0) (rm3_r_WORD_65 l Z a0 hw [] r_WORD k_WORD h0 n0 Z0 V_r_WORD) hZ (hw _ (List.mem_of_getElem? (i := 18) rfl)) (hw _ (List.mem_of_getElem? (i := 17) rfl)) (by decide) (by decide)) (g := (mkF m 5 #[.val (.ref w_WORD), .val (.int 65), .unset] [(.int 65), (.ref r_WORD)])) rfl (by rw [hml]; rfl) (argsL := [(.ref r_WORD), (.int 65)]) (rest := []) (lenOf pd___II_I rfl) rfl (by show 2 * 0 + _ ≤ _; exact Nat.le_of_eq rfl) (hb hby d2_5) (fun _ _ => ⟨rfl, e1, (by decide : 0 + 0 ≤ _), (by decide : 0 + 0 ≤ _)⟩)
  dsimp only [Pt.U, Pt.locs, Pt.cells, Pt.slots] at X2 l2 y2 z2 st2 hQ2
  subst l2 y2 z2
  obtain ⟨rfl, N2q, e2⟩ := hQ2
  have N2 := Fr.app N0 N2q
  obtain ⟨fs, hr, hrun, hended, hW, hsame⟩ := X2.leave (v := some (.int 1)) (fun h => by rw [Bd.returns] at h; cases h)
  refine ⟨_, _, pre0 _ ?_, hrun, hended, _, _, rfl, ?_, ⟨_, rfl⟩, hW, hsame.mono (by decide) (by decide)⟩
  · show Steps p.tables e below (s₁.setTop (mkF m 0 #[.val (.ref w_WORD), .val (.int 65), .unset] [])) _
    refine XS.aloadN X0.here hx rfl (hb hby d2_0) rfl rfl ?_
    show Steps p.tables e below (s₁.setTop (mkF m 1 #[.val (.ref w_WORD), .val (.int 65), .unset] [(.ref w_WORD)])) _
    refine st1 _ ?_
    show Steps p.tables e below (T1.setTop (mkF m 4 #[.val (.ref w_WORD), .val (.int 65), .unset] [(.ref r_WORD)])) _
    refine XS.iloadN X1.here hx rfl (hb hby d2_4) rfl ?_
    show Steps p.tables e below (T1.setTop (mkF m 5 #[.val (.ref w_WORD), .val (.int 65), .unset] [(.int 65), (.ref r_WORD)])) _
    refine st2 _ ?_
    show Steps p.tables e below (T2.setTop (mkF m 8 #[.val (.ref w_WORD), .val (.int 65), .unset] [(.int 2)])) _
    refine XS.istoreN X2.here hx rfl (hb hby d2_8) rfl (l' := #[.val (.ref w_WORD), .val (.int 65), .val (.int 2)]) rfl ?_
    show Steps p.tables e below (T2.setTop (mkF m 9 #[.val (.ref w_WORD), .val (.int 65), .val (.int 2)] [])) _
    refine XS.iloadN X2.here hx rfl (hb hby d2_9) rfl ?_
    show Steps p.tables e below (T2.setTop (mkF m 10 #[.val (.ref w_WORD), .val (.int 65), .val (.int 2)] [(.int 2)])) _
    refine XS.ifYes X2.here hx rfl (pc0 := 10) (pc' := 23) rfl (hb hby d2_10) rfl ((if0 _ _).trans (flt (by decide : ¬ ((2 : Int32) < (0 : Int32)))).2.1) (by decide) (by decide) ?_
    show Steps p.tables e below (T2.setTop (mkF m 23 #[.val (.ref w_WORD), .val (.int 65), .val (.int 2)] [])) _
    refine XS.iconst X2.here hx rfl (hb hby d2_23) ?_
    show Steps p.tables e below (T2.setTop (mkF m 24 #[.val (.ref w_WORD), .val (.int 65), .val (.int 2)] [(.int 1)])) _
    refine XS.goto X2.here hx rfl (pc0 := 24) (pc' := 28) rfl (hb hby d2_24) (by decide) (by decide) ?_
    show Steps p.tables e below (T2.setTop (mkF m 28 #[.val (.ref w_WORD), .val (.int 65), .val (.int 2)] [(.int 1)])) _
    exact retN X2 hx (t := .boolean) Bd.returns (by simp) (hb hby d2_28) hr
  · show Q2_w_WORD_65_all_WORD Z w_WORD r_WORD k_WORD h0 n0 _ T2.heap _
    rw [e2]
    exact ⟨(by rw [hret]), N2, rfl⟩
def Q4_r_WORD_0_8_x_65_90 (Z : State) (r_WORD : Addr) (x : Int32) (k_WORD : ClassId) (h0 : Heap) (n0 : Nat) (v : Option Value) (h : Heap) (L : List Loc) : Prop := v = some (.int (-4)) ∧ Fr n0 L ∧ h = h0
set_option maxRecDepth 65536 in
set_option maxHeartbeats 40000000 in
theorem rm4_r_WORD_0_8_x_65_90 (l : Launch) (Z : State) (a0 : Array Value) (hw : ∀ d ∈ tables_1, d.before a0 Z = true) (ws : List Jvm.Cond) (r_WORD : Addr) (x : Int32) (k_WORD : ClassId) (h0 : Heap) (n0 : Nat) (Z0 : n0 ≤ h0.size) (hhi_x : x < (90 : Int32)) (V_r_WORD : Arv Z h0 r_WORD k_WORD .int (8 : Int32) [(.int 48), (.int 57), (.int 65), (.int 90), (.int 95), (.int 95), (.int 97), (.int 122)] (.int (0 : Int32))) (hlo_x : (65 : Int32) < x) :
    MetFree l (⟨"java/util/Arrays", "binarySearch0", "([IIII)I"⟩ : MethodName) (head1 (Jvm.Cond.code (⟨"java/util/Arrays", "binarySearch0", "([IIII)I"⟩ : MethodName) jdk_65_method_59_code 8 (some .int) :: ws) ({ frames := 0, cells := 0, slots := 0, locals := 0 } : Room)) (fun a U => a = #[(.ref r_WORD), (.int 0), (.int 8), (.int x)] ∧ Z.Warmed39 U.vm ∧ U.heap = h0) (fun _ _ _ _ _ => True) (fun _ U o U' => ∃ v L, o = .returned v ∧ Q4_r_WORD_0_8_x_65_90 Z r_WORD x k_WORD h0 n0 v U'.heap L ∧ FrameEnd U o U' L ({ frames := 0, cells := 0, slots := 0, locals := 0 } : Room).cells ({ frames := 0, cells := 0, slots := 0, locals := 0 } : Room).slots) := by
  refine MetFree.of_bodySF (plainFor_of_name pn_4) hisR ?_
  intro p e s m args below meth c s₁ Bd hml0 hP hK
  obtain ⟨rfl, hZ, hh⟩ := hP
  have hx := Bd.exec
  have hby := Bd.bytes
  have hml : c.maxLocals = 8 := hml0
  have hown : s.vm.findClass "java/util/Arrays" = some m.cls := findClass_of_methodNamed Bd.named
  have hnm := (name_of_methodNamed Bd.named Bd.method).1
  have X0 : Stand p l e ({ frames := 0, cells := 0, slots := 0, locals := 0 } : Room) s m #[(.ref r_WORD), (.int 0), (.int 8), (.int x)] below meth c s₁ [] 0 0 := Stand.of_body Bd
  have e0 : s₁.heap = h0 := by rw [← hh, Bd.state]; rfl
  have N0 := Fr.nil n0
  have pre0 : ∀ t, Steps p.tables e below (s₁.setTop (mkF m 0 #[.val (.ref r_WORD), .val (.int 0), .val (.int 8), .val (.int x), .unset, .unset, .unset, .unset] [])) t → Steps p.tables e below (s₁.setTop (entryFrame m #[(.ref r_WORD), (.int 0), (.int 8), (.int x)] 8)) t := fun t k => castTop (by first | (simp [entryFrame, mkF, argsToLocals, Value.category]; done) | rfl) k
  obtain ⟨fs, hr, hrun, hended, hW, hsame⟩ := X0.leave (v := some (.int (-4))) (fun h => by rw [Bd.returns] at h; cases h)
  refine ⟨_, _, pre0 _ ?_, hrun, hended, _, _, rfl, ?_, ⟨_, rfl⟩, hW, hsame.mono (by decide) (by decide)⟩
  · show Steps p.tables e below (s₁.setTop (mkF m 0 #[.val (.ref r_WORD), .val (.int 0), .val (.int 8), .val (.int x), .unset, .unset, .unset, .unset] [])) _
    refine XS.iloadN X0.here hx rfl (hb hby d4_0) rfl ?_
    show Steps p.tables e below (s₁.setTop (mkF m 1 #[.val (.ref r_WORD), .val (.int 0), .val (.int 8), .val (.int x), .unset, .unset, .unset, .unset] [(.int 0)])) _
    refine XS.istore X0.here hx rfl (hb hby d4_1) rfl (l' := #[.val (.ref r_WORD), .val (.int 0), .val (.int 8), .val (.int x), .val (.int 0), .unset, .unset, .unset]) rfl ?_
    show Steps p.tables e below (s₁.setTop (mkF m 3 #[.val (.ref r_WORD), .val (.int 0), .val (.int 8), .val (.int x), .val (.int 0), .unset, .unset, .unset] [])) _
    refine XS.iloadN X0.here hx rfl (hb hby d4_3) rfl ?_
    show Steps p.tables e below (s₁.setTop (mkF m 4 #[.val (.ref r_WORD), .val (.int 0), .val (.int 8), .val (.int x), .val (.int 0), .unset, .unset, .unset] [(.int 8)])) _
    refine XS.iconst X0.here hx rfl (hb hby d4_4) ?_
    show Steps p.tables e below (s₁.setTop (mkF m 5 #[.val (.ref r_WORD), .val (.int 0), .val (.int 8), .val (.int x), .val (.int 0), .unset, .unset, .unset] [(.int 1), (.int 8)])) _
    refine XS.isub X0.here hx rfl (hb hby d4_5) rfl ?_
    show Steps p.tables e below (s₁.setTop (mkF m 6 #[.val (.ref r_WORD), .val (.int 0), .val (.int 8), .val (.int x), .val (.int 0), .unset, .unset, .unset] [(.int ((8 : Int32) - (1 : Int32)))])) _
    rw [(by decide : ((8 : Int32) - (1 : Int32)) = (7 : Int32))]
    show Steps p.tables e below (s₁.setTop (mkF m 6 #[.val (.ref r_WORD), .val (.int 0), .val (.int 8), .val (.int x), .val (.int 0), .unset, .unset, .unset] [(.int 7)])) _
    refine XS.istore X0.here hx rfl (hb hby d4_6) rfl (l' := #[.val (.ref r_WORD), .val (.int 0), .val (.int 8), .val (.int x), .val (.int 0), .val (.int 7), .unset, .unset]) rfl ?_
    show Steps p.tables e below (s₁.setTop (mkF m 8 #[.val (.ref r_WORD), .val (.int 0), .val (.int 8), .val (.int x), .val (.int 0), .val (.int 7), .unset, .unset] [])) _
    refine tnGu r_WORD (0 : Int32) (8 : Int32) x (0 : Int32) (7 : Int32) (3 : Int32) k_WORD (8 : Int32) [(.int 48), (.int 57), (.int 65), (.int 90), (.int 95), (.int 95), (.int 97), (.int 122)] (.int (0 : Int32)) (90 : Int32) (2 : Int32) X0 hx hZ hby e0 (by decide) (by decide) V_r_WORD ⟨by decide, by decide⟩ rfl (own_ngt hhi_x (by decide)) (own_lt hhi_x (by decide)) (by decide) _ ?_
    show Steps p.tables e below (s₁.setTop (mkF m 8 #[.val (.ref r_WORD), .val (.int 0), .val (.int 8), .val (.int x), .val (.int 0), .val (.int 2), .val (.int 3), .val (.int 90)] [])) _
    refine tnLv r_WORD (0 : Int32) (8 : Int32) x (0 : Int32) (2 : Int32) (3 : Int32) (90 : Int32) (1 : Int32) k_WORD (8 : Int32) [(.int 48), (.int 57), (.int 65), (.int 90), (.int 95), (.int 95), (.int 97), (.int 122)] (.int (0 : Int32)) (57 : Int32) (2 : Int32) X0 hx hZ hby e0 (by decide) (by decide) V_r_WORD ⟨by decide, by decide⟩ rfl (own_gt hlo_x (by decide)) (by decide) _ ?_
    show Steps p.tables e below (s₁.setTop (mkF m 8 #[.val (.ref r_WORD), .val (.int 0), .val (.int 8), .val (.int x), .val (.int 2), .val (.int 2), .val (.int 1), .val (.int 57)] [])) _
    refine tnLv r_WORD (0 : Int32) (8 : Int32) x (2 : Int32) (2 : Int32) (1 : Int32) (57 : Int32) (2 : Int32) k_WORD (8 : Int32) [(.int 48), (.int 57), (.int 65), (.int 90), (.int 95), (.int 95), (.int 97), (.int 122)] (.int (0 : Int32)) (65 : Int32) (3 : Int32) X0 hx hZ hby e0 (by decide) (by decide) V_r_WORD ⟨by decide, by decide⟩ rfl (own_gt hlo_x (by decide)) (by decide) _ ?_
    show Steps p.tables e below (s₁.setTop (mkF m 8 #[.val (.ref r_WORD), .val (.int 0), .val (.int 8), .val (.int x), .val (.int 3), .val (.int 2), .val (.int 2), .val (.int 65)] [])) _
    refine XS.iload X0.here hx rfl (hb hby d4_8) rfl ?_
    show Steps p.tables e below (s₁.setTop (mkF m 10 #[.val (.ref r_WORD), .val (.int 0), .val (.int 8), .val (.int x), .val (.int 3), .val (.int 2), .val (.int 2), .val (.int 65)] [(.int 3)])) _
    refine XS.iload X0.here hx rfl (hb hby d4_10) rfl ?_
    show Steps p.tables e below (s₁.setTop (mkF m 12 #[.val (.ref r_WORD), .val (.int 0), .val (.int 8), .val (.int x), .val (.int 3), .val (.int 2), .val (.int 2), .val (.int 65)] [(.int 2), (.int 3)])) _
    refine XS.icmpYes X0.here hx rfl (pc0 := 12) (pc' := 66) rfl (hb hby d4_12) rfl (tlt (by decide : (2 : Int32) < (3 : Int32))).2.2.1 (by decide) (by decide) ?_
    show Steps p.tables e below (s₁.setTop (mkF m 66 #[.val (.ref r_WORD), .val (.int 0), .val (.int 8), .val (.int x), .val (.int 3), .val (.int 2), .val (.int 2), .val (.int 65)] [])) _
    refine XS.iload X0.here hx rfl (hb hby d4_66) rfl ?_
    show Steps p.tables e below (s₁.setTop (mkF m 68 #[.val (.ref r_WORD), .val (.int 0), .val (.int 8), .val (.int x), .val (.int 3), .val (.int 2), .val (.int 2), .val (.int 65)] [(.int 3)])) _
    refine XS.iconst X0.here hx rfl (hb hby d4_68) ?_
    show Steps p.tables e below (s₁.setTop (mkF m 69 #[.val (.ref r_WORD), .val (.int 0), .val (.int 8), .val (.int x), .val (.int 3), .val (.int 2), .val (.int 2), .val (.int 65)] [(.int 1), (.int 3)])) _
    refine XS.iadd X0.here hx rfl (hb hby d4_69) rfl ?_
    show Steps p.tables e below (s₁.setTop (mkF m 70 #[.val (.ref r_WORD), .val (.int 0), .val (.int 8), .val (.int x), .val (.int 3), .val (.int 2), .val (.int 2), .val (.int 65)] [(.int ((3 : Int32) + (1 : Int32)))])) _
    rw [(by decide : ((3 : Int32) + (1 : Int32)) = (4 : Int32))]
    show Steps p.tables e below (s₁.setTop (mkF m 70 #[.val (.ref r_WORD), .val (.int 0), .val (.int 8), .val (.int x), .val (.int 3), .val (.int 2), .val (.int 2), .val (.int 65)] [(.int 4)])) _
    refine XS.ineg X0.here hx rfl (hb hby d4_70) rfl ?_
    show Steps p.tables e below (s₁.setTop (mkF m 71 #[.val (.ref r_WORD), .val (.int 0), .val (.int 8), .val (.int x), .val (.int 3), .val (.int 2), .val (.int 2), .val (.int 65)] [(.int (-(4 : Int32)))])) _
    rw [(by decide : (-(4 : Int32)) = (-4 : Int32))]
    show Steps p.tables e below (s₁.setTop (mkF m 71 #[.val (.ref r_WORD), .val (.int 0), .val (.int 8), .val (.int x), .val (.int 3), .val (.int 2), .val (.int 2), .val (.int 65)] [(.int (-4))])) _
    exact retI X0 hx Bd.returns (hb hby d4_71) hr
  · show Q4_r_WORD_0_8_x_65_90 Z r_WORD x k_WORD h0 n0 _ s₁.heap _
    rw [e0]
    exact ⟨rfl, N0, rfl⟩
def Q3_r_WORD_x_65_90 (Z : State) (r_WORD : Addr) (x : Int32) (k_WORD : ClassId) (h0 : Heap) (n0 : Nat) (v : Option Value) (h : Heap) (L : List Loc) : Prop := v = some (.int (-4)) ∧ Fr n0 L ∧ h = h0
set_option maxRecDepth 65536 in
set_option maxHeartbeats 40000000 in
theorem rm3_r_WORD_x_65_90 (l : Launch) (Z : State) (a0 : Array Value) (hw : ∀ d ∈ tables_1, d.before a0 Z = true) (ws : List Jvm.Cond) (r_WORD : Addr) (x : Int32) (k_WORD : ClassId) (h0 : Heap) (n0 : Nat) (Z0 : n0 ≤ h0.size) (V_r_WORD : Arv Z h0 r_WORD k_WORD .int (8 : Int32) [(.int 48), (.int 57), (.int 65), (.int 90), (.int 95), (.int 95), (.int 97), (.int 122)] (.int (0 : Int32))) (hhi_x : x < (90 : Int32)) (hlo_x : (65 : Int32) < x) :
    MetFree l (⟨"java/util/Arrays", "binarySearch", "([II)I"⟩ : MethodName) (head1 (Jvm.Cond.code (⟨"java/util/Arrays", "binarySearch", "([II)I"⟩ : MethodName) jdk_65_method_57_code 2 (some .int) :: ws) ({ frames := 1, cells := 0, slots := 0, locals := 19 } : Room)) (fun a U => a = #[(.ref r_WORD), (.int x)] ∧ Z.Warmed39 U.vm ∧ U.heap = h0) (fun _ _ _ _ _ => True) (fun _ U o U' => ∃ v L, o = .returned v ∧ Q3_r_WORD_x_65_90 Z r_WORD x k_WORD h0 n0 v U'.heap L ∧ FrameEnd U o U' L ({ frames := 1, cells := 0, slots := 0, locals := 19 } : Room).cells ({ frames := 1, cells := 0, slots := 0, locals := 19 } : Room).slots) := by
  refine MetFree.of_bodySF (plainFor_of_name pn_3) hisR ?_
  intro p e s m args below meth c s₁ Bd hml0 hP hK
  obtain ⟨rfl, hZ, hh⟩ := hP
  have hx := Bd.exec
  have hby := Bd.bytes
  have hml : c.maxLocals = 2 := hml0
  have hown : s.vm.findClass "java/util/Arrays" = some m.cls := findClass_of_methodNamed Bd.named
  have hnm := (name_of_methodNamed Bd.named Bd.method).1
  have X0 : Stand p l e ({ frames := 1, cells := 0, slots := 0, locals := 19 } : Room) s m #[(.ref r_WORD), (.int x)] below meth c s₁ [] 0 0 := Stand.of_body Bd
  have e0 : s₁.heap = h0 := by rw [← hh, Bd.state]; rfl
  have N0 := Fr.nil n0
  have pre0 : ∀ t, Steps p.tables e below (s₁.setTop (mkF m 0 #[.val (.ref r_WORD), .val (.int x)] [])) t → Steps p.tables e below (s₁.setTop (entryFrame m #[(.ref r_WORD), (.int x)] 2)) t := fun t k => castTop (by first | (simp [entryFrame, mkF, argsToLocals, Value.category]; done) | rfl) k
  obtain ⟨_, _, ⟨T1, L1, k1, n1⟩, -, X1, ⟨Lc1, hQ1, l1, y1, z1⟩, st1⟩ := Jvm.LawKit.callS X0 hx (y := (⟨"java/util/Arrays", "binarySearch0", "([IIII)I"⟩ : MethodName)) hown (mvT hZ (hw _ (List.mem_of_getElem? (i := 19) rfl))) (mvT hZ (hw _ (List.mem_of_getElem? (i := 20) rfl))) (mvT hZ (hw _ (List.mem_of_getElem? (i := 17) rfl))) (mvT hZ (hw _ (List.mem_of_getElem? (i := 21) rfl))) (by decide) (backOf (W := 0) (rm4_r_WORD_0_8_x_65_90 l Z a0 hw [] r_WORD x k_WORD h0 n0 Z0 hhi_x V_r_WORD hlo_x) hZ (hw _ (List.mem_of_getElem? (i := 21) rfl)) (hw _ (List.mem_of_getElem? (i := 17) rfl)) (by decide) (by decide)) (g := (mkF m 5 #[.val (.ref r_WORD), .val (.int x)] [(.int x), (.int 8), (.int 0), (.ref r_WORD)])) rfl (by rw [hml]; rfl) (argsL := [(.ref r_WORD), (.int 0), (.int 8), (.int x)]) (rest := []) (lenOf pd___IIII_I rfl) rfl (by show 2 * 0 + _ ≤ _; exact Nat.le_of_eq rfl) (hb hby d3_5) (fun _ _ => ⟨rfl, e0, (by decide : 0 + 0 ≤ _), (by decide : 0 + 0 ≤ _)⟩)
  dsimp only [Pt.U, Pt.locs, Pt.cells, Pt.slots] at X1 l1 y1 z1 st1 hQ1
  subst l1 y1 z1
  obtain ⟨rfl, N1q, e1⟩ := hQ1
  have N1 := Fr.app N0 N1q
  obtain ⟨fs, hr, hrun, hended, hW, hsame⟩ := X1.leave (v := some (.int (-4))) (fun h => by rw [Bd.returns] at h; cases h)
  refine ⟨_, _, pre0 _ ?_, hrun, hended, _, _, rfl, ?_, ⟨_, rfl⟩, hW, hsame.mono (by decide) (by decide)⟩
  · show Steps p.tables e below (s₁.setTop (mkF m 0 #[.val (.ref r_WORD), .val (.int x)] [])) _
    refine XS.aloadN X0.here hx rfl (hb hby d3_0) rfl rfl ?_
    show Steps p.tables e below (s₁.setTop (mkF m 1 #[.val (.ref r_WORD), .val (.int x)] [(.ref r_WORD)])) _
    refine XS.iconst X0.here hx rfl (hb hby d3_1) ?_
    show Steps p.tables e below (s₁.setTop (mkF m 2 #[.val (.ref r_WORD), .val (.int x)] [(.int 0), (.ref r_WORD)])) _
    refine XS.aloadN X0.here hx rfl (hb hby d3_2) rfl rfl ?_
    show Steps p.tables e below (s₁.setTop (mkF m 3 #[.val (.ref r_WORD), .val (.int x)] [(.ref r_WORD), (.int 0), (.ref r_WORD)])) _
    refine own_lenz X0 hx hZ e0 V_r_WORD (g := (mkF m 3 #[.val (.ref r_WORD), .val (.int x)] [(.ref r_WORD), (.int 0), (.ref r_WORD)])) rfl rfl (hb hby d3_3) _ ?_
    show Steps p.tables e below (s₁.setTop (mkF m 4 #[.val (.ref r_WORD), .val (.int x)] [(.int 8), (.int 0), (.ref r_WORD)])) _
    refine XS.iloadN X0.here hx rfl (hb hby d3_4) rfl ?_
    show Steps p.tables e below (s₁.setTop (mkF m 5 #[.val (.ref r_WORD), .val (.int x)] [(.int x), (.int 8), (.int 0), (.ref r_WORD)])) _
    refine st1 _ ?_
    show Steps p.tables e below (T1.setTop (mkF m 8 #[.val (.ref r_WORD), .val (.int x)] [(.int (-4))])) _
    exact retI X1 hx Bd.returns (hb hby d3_8) hr
  · show Q3_r_WORD_x_65_90 Z r_WORD x k_WORD h0 n0 _ T1.heap _
    rw [e1]
    exact ⟨rfl, N1, rfl⟩
def Q2_w_WORD_x_65_90_all_WORD (Z : State) (w_WORD : Addr) (x : Int32) (r_WORD : Addr) (k_WORD : ClassId) (h0 : Heap) (n0 : Nat) (v : Option Value) (h : Heap) (L : List Loc) : Prop := v = some (.int (own_w x)) ∧ Fr n0 L ∧ h = h0
set_option maxRecDepth 65536 in
set_option maxHeartbeats 40000000 in
theorem rm2_w_WORD_x_65_90_all_WORD (l : Launch) (Z : State) (a0 : Array Value) (hw : ∀ d ∈ tables_1, d.before a0 Z = true) (ws : List Jvm.Cond) (w_WORD : Addr) (x : Int32) (r_WORD : Addr) (k_WORD : ClassId) (h0 : Heap) (n0 : Nat) (Z0 : n0 ≤ h0.size) (F_ranges_w_WORD : Fld Z h0 w_WORD "com/example/termwell/termwell/core/text/CodePointSet" "ranges" "[I" (.ref r_WORD)) (V_r_WORD : Arv Z h0 r_WORD k_WORD .int (8 : Int32) [(.int 48), (.int 57), (.int 65), (.int 90), (.int 95), (.int 95), (.int 97), (.int 122)] (.int (0 : Int32))) (hhi_x : x < (90 : Int32)) (hlo_x : (65 : Int32) < x) (hret : (own_w x) = (1 : Int32)) :
    MetFree l (⟨"com/example/termwell/termwell/core/text/CodePointSet", "contains", "(I)Z"⟩ : MethodName) (head1 (Jvm.Cond.code (⟨"com/example/termwell/termwell/core/text/CodePointSet", "contains", "(I)Z"⟩ : MethodName) prog_19_method_4_code 3 (some .boolean) :: ws) ({ frames := 2, cells := 0, slots := 0, locals := 32 } : Room)) (fun a U => a = #[(.ref w_WORD), (.int x)] ∧ Z.Warmed39 U.vm ∧ U.heap = h0) (fun _ _ _ _ _ => True) (fun _ U o U' => ∃ v L, o = .returned v ∧ Q2_w_WORD_x_65_90_all_WORD Z w_WORD x r_WORD k_WORD h0 n0 v U'.heap L ∧ FrameEnd U o U' L ({ frames := 2, cells := 0, slots := 0, locals := 32 } : Room).cells ({ frames := 2, cells := 0, slots := 0, locals := 32 } : Room).slots) := by
  refine MetFree.of_bodySF (plainFor_of_name pn_2) hisR ?_
  intro p e s m args below meth c s₁ Bd hml0 hP hK
  obtain ⟨rfl, hZ, hh⟩ := hP
  have hx := Bd.exec
  have hby := Bd.bytes
  have hml : c.maxLocals = 3 := hml0
  have hown : s.vm.findClass "com/example/termwell/termwell/core/text/CodePointSet" = some m.cls := findClass_of_methodNamed Bd.named
  have hnm := (name_of_methodNamed Bd.named Bd.method).1
  have X0 : Stand p l e ({ frames := 2, cells := 0, slots := 0, locals := 32 } : Room) s m #[(.ref w_WORD), (.int x)] below meth c s₁ [] 0 0 := Stand.of_body Bd
  have e0 : s₁.heap = h0 := by rw [← hh, Bd.state]; rfl
  have N0 := Fr.nil n0
  have pre0 : ∀ t, Steps p.tables e below (s₁.setTop (mkF m 0 #[.val (.ref w_WORD), .val (.int x), .unset] [])) t → Steps p.tables e below (s₁.setTop (entryFrame m #[(.ref w_WORD), (.int x)] 3)) t := fun t k => castTop (by first | (simp [entryFrame, mkF, argsToLocals, Value.category]; done) | rfl) k
  obtain ⟨T1, X1, e1, st1⟩ := getF X0 hx hZ hown (host := "") (Or.inl (hw _ (List.mem_of_getElem? (i := 13) rfl))) Via.refl e0 F_ranges_w_WORD (g := (mkF m 1 #[.val (.ref w_WORD), .val (.int x), .unset] [(.ref w_WORD)])) rfl rfl (hb hby d2_1)
  obtain ⟨_, _, ⟨T2, L2, k2, n2⟩, -, X2, ⟨Lc2, hQ2, l2, y2, z2⟩, st2⟩ := Jvm.LawKit.callS X1 hx (y := (⟨"java/util/Arrays", "binarySearch", "([II)I"⟩ : MethodName)) hown (mvT hZ (hw _ (List.mem_of_getElem? (i := 15) rfl))) (mvT hZ (hw _ (List.mem_of_getElem? (i := 16) rfl))) (mvT hZ (hw _ (List.mem_of_getElem? (i := 17) rfl))) (mvT hZ (hw _ (List.mem_of_getElem? (i := 18) rfl))) (by decide) (backOf (W := 0) (rm3_r_WORD_x_65_90 l Z a0 hw [] r_WORD x k_WORD h0 n0 Z0 V_r_WORD hhi_x hlo_x) hZ (hw _ (List.mem_of_getElem? (i := 18) rfl)) (hw _ (List.mem_of_getElem? (i := 17) rfl)) (by decide) (by decide)) (g := (mkF m 5 #[.val (.ref w_WORD), .val (.int x), .unset] [(.int x), (.ref r_WORD)])) rfl (by rw [hml]; rfl) (argsL := [(.ref r_WORD), (.int x)]) (rest := []) (lenOf pd___II_I rfl) rfl (by show 2 * 0 + _ ≤ _; exact Nat.le_of_eq rfl) (hb hby d2_5) (fun _ _ => ⟨rfl, e1, (by decide : 0 + 0 ≤ _), (by decide : 0 + 0 ≤ _)⟩)
  dsimp only [Pt.U, Pt.locs, Pt.cells, Pt.slots] at X2 l2 y2 z2 st2 hQ2
  subst l2 y2 z2
  obtain ⟨rfl, N2q, e2⟩ := hQ2
  have N2 := Fr.app N0 N2q
  obtain ⟨fs, hr, hrun, hended, hW, hsame⟩ := X2.leave (v := some (.int 1)) (fun h => by rw [Bd.returns] at h; cases h)
  refine ⟨_, _, pre0 _ ?_, hrun, hended, _, _, rfl, ?_, ⟨_, rfl⟩, hW, hsame.mono (by decide) (by decide)⟩
  · show Steps p.tables e below (s₁.setTop (mkF m 0 #[.val (.ref w_WORD), .val (.int x), .unset] [])) _
    refine XS.aloadN X0.here hx rfl (hb hby d2_0) rfl rfl ?_
    show Steps p.tables e below (s₁.setTop (mkF m 1 #[.val (.ref w_WORD), .val (.int x), .unset] [(.ref w_WORD)])) _
    refine st1 _ ?_
    show Steps p.tables e below (T1.setTop (mkF m 4 #[.val (.ref w_WORD), .val (.int x), .unset] [(.ref r_WORD)])) _
    refine XS.iloadN X1.here hx rfl (hb hby d2_4) rfl ?_
    show Steps p.tables e below (T1.setTop (mkF m 5 #[.val (.ref w_WORD), .val (.int x), .unset] [(.int x), (.ref r_WORD)])) _
    refine st2 _ ?_
    show Steps p.tables e below (T2.setTop (mkF m 8 #[.val (.ref w_WORD), .val (.int x), .unset] [(.int (-4))])) _
    refine XS.istoreN X2.here hx rfl (hb hby d2_8) rfl (l' := #[.val (.ref w_WORD), .val (.int x), .val (.int (-4))]) rfl ?_
    show Steps p.tables e below (T2.setTop (mkF m 9 #[.val (.ref w_WORD), .val (.int x), .val (.int (-4))] [])) _
    refine XS.iloadN X2.here hx rfl (hb hby d2_9) rfl ?_
    show Steps p.tables e below (T2.setTop (mkF m 10 #[.val (.ref w_WORD), .val (.int x), .val (.int (-4))] [(.int (-4))])) _
    refine XS.ifNo X2.here hx rfl (hb hby d2_10) rfl ((if0 _ _).trans (tlt (by decide : (-4 : Int32) < (0 : Int32))).2.1) ?_
    show Steps p.tables e below (T2.setTop (mkF m 13 #[.val (.ref w_WORD), .val (.int x), .val (.int (-4))] [])) _
    refine XS.iloadN X2.here hx rfl (hb hby d2_13) rfl ?_
    show Steps p.tables e below (T2.setTop (mkF m 14 #[.val (.ref w_WORD), .val (.int x), .val (.int (-4))] [(.int (-4))])) _
    refine XS.ineg X2.here hx rfl (hb hby d2_14) rfl ?_
    show Steps p.tables e below (T2.setTop (mkF m 15 #[.val (.ref w_WORD), .val (.int x), .val (.int (-4))] [(.int (-(-4 : Int32)))])) _
    rw [(by decide : (-(-4 : Int32)) = (4 : Int32))]
    show Steps p.tables e below (T2.setTop (mkF m 15 #[.val (.ref w_WORD), .val (.int x), .val (.int (-4))] [(.int 4)])) _
    refine XS.iconst X2.here hx rfl (hb hby d2_15) ?_
    show Steps p.tables e below (T2.setTop (mkF m 16 #[.val (.ref w_WORD), .val (.int x), .val (.int (-4))] [(.int 1), (.int 4)])) _
    refine XS.isub X2.here hx rfl (hb hby d2_16) rfl ?_
    show Steps p.tables e below (T2.setTop (mkF m 17 #[.val (.ref w_WORD), .val (.int x), .val (.int (-4))] [(.int ((4 : Int32) - (1 : Int32)))])) _
    rw [(by decide : ((4 : Int32) - (1 : Int32)) = (3 : Int32))]
    show Steps p.tables e below (T2.setTop (mkF m 17 #[.val (.ref w_WORD), .val (.int x), .val (.int (-4))] [(.int 3)])) _
    refine XS.iconst X2.here hx rfl (hb hby d2_17) ?_
    show Steps p.tables e below (T2.setTop (mkF m 18 #[.val (.ref w_WORD), .val (.int x), .val (.int (-4))] [(.int 2), (.int 3)])) _
    refine iremM X2 hx rfl (hb hby d2_18) rfl (by decide) ?_
    show Steps p.tables e below (T2.setTop (mkF m 19 #[.val (.ref w_WORD), .val (.int x), .val (.int (-4))] [(.int ((3 : Int32) % (2 : Int32)))])) _
    rw [(by decide : ((3 : Int32) % (2 : Int32)) = (1 : Int32))]
    show Steps p.tables e below (T2.setTop (mkF m 19 #[.val (.ref w_WORD), .val (.int x), .val (.int (-4))] [(.int 1)])) _
    refine XS.iconst X2.here hx rfl (hb hby d2_19) ?_
    show Steps p.tables e below (T2.setTop (mkF m 20 #[.val (.ref w_WORD), .val (.int x), .val (.int (-4))] [(.int 1), (.int 1)])) _
    refine XS.icmpNo X2.here hx rfl (hb hby d2_20) rfl (teq (by decide : (1 : Int32) = (1 : Int32))).2 ?_
    show Steps p.tables e below (T2.setTop (mkF m 23 #[.val (.ref w_WORD), .val (.int x), .val (.int (-4))] [])) _
    refine XS.iconst X2.here hx rfl (hb hby d2_23) ?_
    show Steps p.tables e below (T2.setTop (mkF m 24 #[.val (.ref w_WORD), .val (.int x), .val (.int (-4))] [(.int 1)])) _
    refine XS.goto X2.here hx rfl (pc0 := 24) (pc' := 28) rfl (hb hby d2_24) (by decide) (by decide) ?_
    show Steps p.tables e below (T2.setTop (mkF m 28 #[.val (.ref w_WORD), .val (.int x), .val (.int (-4))] [(.int 1)])) _
    exact retN X2 hx (t := .boolean) Bd.returns (by simp) (hb hby d2_28) hr
  · show Q2_w_WORD_x_65_90_all_WORD Z w_WORD x r_WORD k_WORD h0 n0 _ T2.heap _
    rw [e2]
    exact ⟨(by rw [hret]), N2, rfl⟩
def Q4_r_WORD_0_8_90 (Z : State) (r_WORD : Addr) (k_WORD : ClassId) (h0 : Heap) (n0 : Nat) (v : Option Value) (h : Heap) (L : List Loc) : Prop := v = some (.int 3) ∧ Fr n0 L ∧ h = h0
set_option maxRecDepth 65536 in
set_option maxHeartbeats 40000000 in
theorem rm4_r_WORD_0_8_90 (l : Launch) (Z : State) (a0 : Array Value) (hw : ∀ d ∈ tables_1, d.before a0 Z = true) (ws : List Jvm.Cond) (r_WORD : Addr) (k_WORD : ClassId) (h0 : Heap) (n0 : Nat) (Z0 : n0 ≤ h0.size) (V_r_WORD : Arv Z h0 r_WORD k_WORD .int (8 : Int32) [(.int 48), (.int 57), (.int 65), (.int 90), (.int 95), (.int 95), (.int 97), (.int 122)] (.int (0 : Int32))) :
    MetFree l (⟨"java/util/Arrays", "binarySearch0", "([IIII)I"⟩ : MethodName) (head1 (Jvm.Cond.code (⟨"java/util/Arrays", "binarySearch0", "([IIII)I"⟩ : MethodName) jdk_65_method_59_code 8 (some .int) :: ws) ({ frames := 0, cells := 0, slots := 0, locals := 0 } : Room)) (fun a U => a = #[(.ref r_WORD), (.int 0), (.int 8), (.int 90)] ∧ Z.Warmed39 U.vm ∧ U.heap = h0) (fun _ _ _ _ _ => True) (fun _ U o U' => ∃ v L, o = .returned v ∧ Q4_r_WORD_0_8_90 Z r_WORD k_WORD h0 n0 v U'.heap L ∧ FrameEnd U o U' L ({ frames := 0, cells := 0, slots := 0, locals := 0 } : Room).cells ({ frames := 0, cells := 0, slots := 0, locals := 0 } : Room).slots) := by
  refine MetFree.of_bodySF (plainFor_of_name pn_4) hisR ?_
  intro p e s m args below meth c s₁ Bd hml0 hP hK
  obtain ⟨rfl, hZ, hh⟩ := hP
  have hx := Bd.exec
  have hby := Bd.bytes
  have hml : c.maxLocals = 8 := hml0
  have hown : s.vm.findClass "java/util/Arrays" = some m.cls := findClass_of_methodNamed Bd.named
  have hnm := (name_of_methodNamed Bd.named Bd.method).1
  have X0 : Stand p l e ({ frames := 0, cells := 0, slots := 0, locals := 0 } : Room) s m #[(.ref r_WORD), (.int 0), (.int 8), (.int 90)] below meth c s₁ [] 0 0 := Stand.of_body Bd
  have e0 : s₁.heap = h0 := by rw [← hh, Bd.state]; rfl
  have N0 := Fr.nil n0
  have pre0 : ∀ t, Steps p.tables e below (s₁.setTop (mkF m 0 #[.val (.ref r_WORD), .val (.int 0), .val (.int 8), .val (.int 90), .unset, .unset, .unset, .unset] [])) t → Steps p.tables e below (s₁.setTop (entryFrame m #[(.ref r_WORD), (.int 0), (.int 8), (.int 90)] 8)) t := fun t k => castTop (by first | (simp [entryFrame, mkF, argsToLocals, Value.category]; done) | rfl) k
  obtain ⟨fs, hr, hrun, hended, hW, hsame⟩ := X0.leave (v := some (.int 3)) (fun h => by rw [Bd.returns] at h; cases h)
  refine ⟨_, _, pre0 _ ?_, hrun, hended, _, _, rfl, ?_, ⟨_, rfl⟩, hW, hsame.mono (by decide) (by decide)⟩
  · show Steps p.tables e below (s₁.setTop (mkF m 0 #[.val (.ref r_WORD), .val (.int 0), .val (.int 8), .val (.int 90), .unset, .unset, .unset, .unset] [])) _
    refine XS.iloadN X0.here hx rfl (hb hby d4_0) rfl ?_
    show Steps p.tables e below (s₁.setTop (mkF m 1 #[.val (.ref r_WORD), .val (.int 0), .val (.int 8), .val (.int 90), .unset, .unset, .unset, .unset] [(.int 0)])) _
    refine XS.istore X0.here hx rfl (hb hby d4_1) rfl (l' := #[.val (.ref r_WORD), .val (.int 0), .val (.int 8), .val (.int 90), .val (.int 0), .unset, .unset, .unset]) rfl ?_
    show Steps p.tables e below (s₁.setTop (mkF m 3 #[.val (.ref r_WORD), .val (.int 0), .val (.int 8), .val (.int 90), .val (.int 0), .unset, .unset, .unset] [])) _
    refine XS.iloadN X0.here hx rfl (hb hby d4_3) rfl ?_
    show Steps p.tables e below (s₁.setTop (mkF m 4 #[.val (.ref r_WORD), .val (.int 0), .val (.int 8), .val (.int 90), .val (.int 0), .unset, .unset, .unset] [(.int 8)])) _
    refine XS.iconst X0.here hx rfl (hb hby d4_4) ?_
    show Steps p.tables e below (s₁.setTop (mkF m 5 #[.val (.ref r_WORD), .val (.int 0), .val (.int 8), .val (.int 90), .val (.int 0), .unset, .unset, .unset] [(.int 1), (.int 8)])) _
    refine XS.isub X0.here hx rfl (hb hby d4_5) rfl ?_
    show Steps p.tables e below (s₁.setTop (mkF m 6 #[.val (.ref r_WORD), .val (.int 0), .val (.int 8), .val (.int 90), .val (.int 0), .unset, .unset, .unset] [(.int ((8 : Int32) - (1 : Int32)))])) _
    rw [(by decide : ((8 : Int32) - (1 : Int32)) = (7 : Int32))]
    show Steps p.tables e below (s₁.setTop (mkF m 6 #[.val (.ref r_WORD), .val (.int 0), .val (.int 8), .val (.int 90), .val (.int 0), .unset, .unset, .unset] [(.int 7)])) _
    refine XS.istore X0.here hx rfl (hb hby d4_6) rfl (l' := #[.val (.ref r_WORD), .val (.int 0), .val (.int 8), .val (.int 90), .val (.int 0), .val (.int 7), .unset, .unset]) rfl ?_
    show Steps p.tables e below (s₁.setTop (mkF m 8 #[.val (.ref r_WORD), .val (.int 0), .val (.int 8), .val (.int 90), .val (.int 0), .val (.int 7), .unset, .unset] [])) _
    refine XS.iload X0.here hx rfl (hb hby d4_8) rfl ?_
    show Steps p.tables e below (s₁.setTop (mkF m 10 #[.val (.ref r_WORD), .val (.int 0), .val (.int 8), .val (.int 90), .val (.int 0), .val (.int 7), .unset, .unset] [(.int 0)])) _
    refine XS.iload X0.here hx rfl (hb hby d4_10) rfl ?_
    show Steps p.tables e below (s₁.setTop (mkF m 12 #[.val (.ref r_WORD), .val (.int 0), .val (.int 8), .val (.int 90), .val (.int 0), .val (.int 7), .unset, .unset] [(.int 7), (.int 0)])) _
    refine XS.icmpNo X0.here hx rfl (hb hby d4_12) rfl (flt (by decide : ¬ ((7 : Int32) < (0 : Int32)))).2.2.1 ?_
    show Steps p.tables e below (s₁.setTop (mkF m 15 #[.val (.ref r_WORD), .val (.int 0), .val (.int 8), .val (.int 90), .val (.int 0), .val (.int 7), .unset, .unset] [])) _
    refine XS.iload X0.here hx rfl (hb hby d4_15) rfl ?_
    show Steps p.tables e below (s₁.setTop (mkF m 17 #[.val (.ref r_WORD), .val (.int 0), .val (.int 8), .val (.int 90), .val (.int 0), .val (.int 7), .unset, .unset] [(.int 0)])) _
    refine XS.iload X0.here hx rfl (hb hby d4_17) rfl ?_
    show Steps p.tables e below (s₁.setTop (mkF m 19 #[.val (.ref r_WORD), .val (.int 0), .val (.int 8), .val (.int 90), .val (.int 0), .val (.int 7), .unset, .unset] [(.int 7), (.int 0)])) _
    refine XS.iadd X0.here hx rfl (hb hby d4_19) rfl ?_
    show Steps p.tables e below (s₁.setTop (mkF m 20 #[.val (.ref r_WORD), .val (.int 0), .val (.int 8), .val (.int 90), .val (.int 0), .val (.int 7), .unset, .unset] [(.int ((0 : Int32) + (7 : Int32)))])) _
    rw [(by decide : ((0 : Int32) + (7 : Int32)) = (7 : Int32))]
    show Steps p.tables e below (s₁.setTop (mkF m 20 #[.val (.ref r_WORD), .val (.int 0), .val (.int 8), .val (.int 90), .val (.int 0), .val (.int 7), .unset, .unset] [(.int 7)])) _
    refine XS.iconst X0.here hx rfl (hb hby d4_20) ?_
    show Steps p.tables e below (s₁.setTop (mkF m 21 #[.val (.ref r_WORD), .val (.int 0), .val (.int 8), .val (.int 90), .val (.int 0), .val (.int 7), .unset, .unset] [(.int 1), (.int 7)])) _
    refine XS.iushr X0.here hx rfl (hb hby d4_21) rfl ?_
    show Steps p.tables e below (s₁.setTop (mkF m 22 #[.val (.ref r_WORD), .val (.int 0), .val (.int 8), .val (.int 90), .val (.int 0), .val (.int 7), .unset, .unset] [(.int (((7 : Int32).toUInt32 >>> ((1 : Int32) &&& 31).toUInt32).toInt32))])) _
    rw [(by decide : (((7 : Int32).toUInt32 >>> ((1 : Int32) &&& 31).toUInt32).toInt32) = (3 : Int32))]
    show Steps p.tables e below (s₁.setTop (mkF m 22 #[.val (.ref r_WORD), .val (.int 0), .val (.int 8), .val (.int 90), .val (.int 0), .val (.int 7), .unset, .unset] [(.int 3)])) _
    refine XS.istore X0.here hx rfl (hb hby d4_22) rfl (l' := #[.val (.ref r_WORD), .val (.int 0), .val (.int 8), .val (.int 90), .val (.int 0), .val (.int 7), .val (.int 3), .unset]) rfl ?_
    show Steps p.tables e below (s₁.setTop (mkF m 24 #[.val (.ref r_WORD), .val (.int 0), .val (.int 8), .val (.int 90), .val (.int 0), .val (.int 7), .val (.int 3), .unset] [])) _
    refine XS.aloadN X0.here hx rfl (hb hby d4_24) rfl rfl ?_
    show Steps p.tables e below (s₁.setTop (mkF m 25 #[.val (.ref r_WORD), .val (.int 0), .val (.int 8), .val (.int 90), .val (.int 0), .val (.int 7), .val (.int 3), .unset] [(.ref r_WORD)])) _
    refine XS.iload X0.here hx rfl (hb hby d4_25) rfl ?_
    show Steps p.tables e below (s₁.setTop (mkF m 27 #[.val (.ref r_WORD), .val (.int 0), .val (.int 8), .val (.int 90), .val (.int 0), .val (.int 7), .val (.int 3), .unset] [(.int 3), (.ref r_WORD)])) _
    refine own_ldI X0 hx hZ e0 V_r_WORD (j := (3 : Int32)) ⟨by decide, by decide⟩ rfl (g := (mkF m 27 #[.val (.ref r_WORD), .val (.int 0), .val (.int 8), .val (.int 90), .val (.int 0), .val (.int 7), .val (.int 3), .unset] [(.int 3), (.ref r_WORD)])) rfl rfl (hb hby d4_27) _ ?_
    show Steps p.tables e below (s₁.setTop (mkF m 28 #[.val (.ref r_WORD), .val (.int 0), .val (.int 8), .val (.int 90), .val (.int 0), .val (.int 7), .val (.int 3), .unset] [(.int 90)])) _
    refine XS.istore X0.here hx rfl (hb hby d4_28) rfl (l' := #[.val (.ref r_WORD), .val (.int 0), .val (.int 8), .val (.int 90), .val (.int 0), .val (.int 7), .val (.int 3), .val (.int 90)]) rfl ?_
    show Steps p.tables e below (s₁.setTop (mkF m 30 #[.val (.ref r_WORD), .val (.int 0), .val (.int 8), .val (.int 90), .val (.int 0), .val (.int 7), .val (.int 3), .val (.int 90)] [])) _
    refine XS.iload X0.here hx rfl (hb hby d4_30) rfl ?_
    show Steps p.tables e below (s₁.setTop (mkF m 32 #[.val (.ref r_WORD), .val (.int 0), .val (.int 8), .val (.int 90), .val (.int 0), .val (.int 7), .val (.int 3), .val (.int 90)] [(.int 90)])) _
    refine XS.iloadN X0.here hx rfl (hb hby d4_32) rfl ?_
    show Steps p.tables e below (s₁.setTop (mkF m 33 #[.val (.ref r_WORD), .val (.int 0), .val (.int 8), .val (.int 90), .val (.int 0), .val (.int 7), .val (.int 3), .val (.int 90)] [(.int 90), (.int 90)])) _
    refine XS.icmpYes X0.here hx rfl (pc0 := 33) (pc' := 45) rfl (hb hby d4_33) rfl (flt (by decide : ¬ ((90 : Int32) < (90 : Int32)))).2.1 (by decide) (by decide) ?_
    show Steps p.tables e below (s₁.setTop (mkF m 45 #[.val (.ref r_WORD), .val (.int 0), .val (.int 8), .val (.int 90), .val (.int 0), .val (.int 7), .val (.int 3), .val (.int 90)] [])) _
    refine XS.iload X0.here hx rfl (hb hby d4_45) rfl ?_
    show Steps p.tables e below (s₁.setTop (mkF m 47 #[.val (.ref r_WORD), .val (.int 0), .val (.int 8), .val (.int 90), .val (.int 0), .val (.int 7), .val (.int 3), .val (.int 90)] [(.int 90)])) _
    refine XS.iloadN X0.here hx rfl (hb hby d4_47) rfl ?_
    show Steps p.tables e below (s₁.setTop (mkF m 48 #[.val (.ref r_WORD), .val (.int 0), .val (.int 8), .val (.int 90), .val (.int 0), .val (.int 7), .val (.int 3), .val (.int 90)] [(.int 90), (.int 90)])) _
    refine XS.icmpYes X0.here hx rfl (pc0 := 48) (pc' := 60) rfl (hb hby d4_48) rfl (flt (by decide : ¬ ((90 : Int32) < (90 : Int32)))).2.2.2 (by decide) (by decide) ?_
    show Steps p.tables e below (s₁.setTop (mkF m 60 #[.val (.ref r_WORD), .val (.int 0), .val (.int 8), .val (.int 90), .val (.int 0), .val (.int 7), .val (.int 3), .val (.int 90)] [])) _
    refine XS.iload X0.here hx rfl (hb hby d4_60) rfl ?_
    show Steps p.tables e below (s₁.setTop (mkF m 62 #[.val (.ref r_WORD), .val (.int 0), .val (.int 8), .val (.int 90), .val (.int 0), .val (.int 7), .val (.int 3), .val (.int 90)] [(.int 3)])) _
    exact retI X0 hx Bd.returns (hb hby d4_62) hr
  · show Q4_r_WORD_0_8_90 Z r_WORD k_WORD h0 n0 _ s₁.heap _
    rw [e0]
    exact ⟨rfl, N0, rfl⟩
def Q3_r_WORD_90 (Z : State) (r_WORD : Addr) (k_WORD : ClassId) (h0 : Heap) (n0 : Nat) (v : Option Value) (h : Heap) (L : List Loc) : Prop := v = some (.int 3) ∧ Fr n0 L ∧ h = h0
set_option maxRecDepth 65536 in
set_option maxHeartbeats 40000000 in
theorem rm3_r_WORD_90 (l : Launch) (Z : State) (a0 : Array Value) (hw : ∀ d ∈ tables_1, d.before a0 Z = true) (ws : List Jvm.Cond) (r_WORD : Addr) (k_WORD : ClassId) (h0 : Heap) (n0 : Nat) (Z0 : n0 ≤ h0.size) (V_r_WORD : Arv Z h0 r_WORD k_WORD .int (8 : Int32) [(.int 48), (.int 57), (.int 65), (.int 90), (.int 95), (.int 95), (.int 97), (.int 122)] (.int (0 : Int32))) :
    MetFree l (⟨"java/util/Arrays", "binarySearch", "([II)I"⟩ : MethodName) (head1 (Jvm.Cond.code (⟨"java/util/Arrays", "binarySearch", "([II)I"⟩ : MethodName) jdk_65_method_57_code 2 (some .int) :: ws) ({ frames := 1, cells := 0, slots := 0, locals := 19 } : Room)) (fun a U => a = #[(.ref r_WORD), (.int 90)] ∧ Z.Warmed39 U.vm ∧ U.heap = h0) (fun _ _ _ _ _ => True) (fun _ U o U' => ∃ v L, o = .returned v ∧ Q3_r_WORD_90 Z r_WORD k_WORD h0 n0 v U'.heap L ∧ FrameEnd U o U' L ({ frames := 1, cells := 0, slots := 0, locals := 19 } : Room).cells ({ frames := 1, cells := 0, slots := 0, locals := 19 } : Room).slots) := by
  refine MetFree.of_bodySF (plainFor_of_name pn_3) hisR ?_
  intro p e s m args below meth c s₁ Bd hml0 hP hK
  obtain ⟨rfl, hZ, hh⟩ := hP
  have hx := Bd.exec
  have hby := Bd.bytes
  have hml : c.maxLocals = 2 := hml0
  have hown : s.vm.findClass "java/util/Arrays" = some m.cls := findClass_of_methodNamed Bd.named
  have hnm := (name_of_methodNamed Bd.named Bd.method).1
  have X0 : Stand p l e ({ frames := 1, cells := 0, slots := 0, locals := 19 } : Room) s m #[(.ref r_WORD), (.int 90)] below meth c s₁ [] 0 0 := Stand.of_body Bd
  have e0 : s₁.heap = h0 := by rw [← hh, Bd.state]; rfl
  have N0 := Fr.nil n0
  have pre0 : ∀ t, Steps p.tables e below (s₁.setTop (mkF m 0 #[.val (.ref r_WORD), .val (.int 90)] [])) t → Steps p.tables e below (s₁.setTop (entryFrame m #[(.ref r_WORD), (.int 90)] 2)) t := fun t k => castTop (by first | (simp [entryFrame, mkF, argsToLocals, Value.category]; done) | rfl) k
  obtain ⟨_, _, ⟨T1, L1, k1, n1⟩, -, X1, ⟨Lc1, hQ1, l1, y1, z1⟩, st1⟩ := Jvm.LawKit.callS X0 hx (y := (⟨"java/util/Arrays", "binarySearch0", "([IIII)I"⟩ : MethodName)) hown (mvT hZ (hw _ (List.mem_of_getElem? (i := 19) rfl))) (mvT hZ (hw _ (List.mem_of_getElem? (i := 20) rfl))) (mvT hZ (hw _ (List.mem_of_getElem? (i := 17) rfl))) (mvT hZ (hw _ (List.mem_of_getElem? (i := 21) rfl))) (by decide) (backOf (W := 0) (rm4_r_WORD_0_8_90 l Z a0 hw [] r_WORD k_WORD h0 n0 Z0 V_r_WORD) hZ (hw _ (List.mem_of_getElem? (i := 21) rfl)) (hw _ (List.mem_of_getElem? (i := 17) rfl)) (by decide) (by decide)) (g := (mkF m 5 #[.val (.ref r_WORD), .val (.int 90)] [(.int 90), (.int 8), (.int 0), (.ref r_WORD)])) rfl (by rw [hml]; rfl) (argsL := [(.ref r_WORD), (.int 0), (.int 8), (.int 90)]) (rest := []) (lenOf pd___IIII_I rfl) rfl (by show 2 * 0 + _ ≤ _; exact Nat.le_of_eq rfl) (hb hby d3_5) (fun _ _ => ⟨rfl, e0, (by decide : 0 + 0 ≤ _), (by decide : 0 + 0 ≤ _)⟩)
  dsimp only [Pt.U, Pt.locs, Pt.cells, Pt.slots] at X1 l1 y1 z1 st1 hQ1
  subst l1 y1 z1
  obtain ⟨rfl, N1q, e1⟩ := hQ1
  have N1 := Fr.app N0 N1q
  obtain ⟨fs, hr, hrun, hended, hW, hsame⟩ := X1.leave (v := some (.int 3)) (fun h => by rw [Bd.returns] at h; cases h)
  refine ⟨_, _, pre0 _ ?_, hrun, hended, _, _, rfl, ?_, ⟨_, rfl⟩, hW, hsame.mono (by decide) (by decide)⟩
  · show Steps p.tables e below (s₁.setTop (mkF m 0 #[.val (.ref r_WORD), .val (.int 90)] [])) _
    refine XS.aloadN X0.here hx rfl (hb hby d3_0) rfl rfl ?_
    show Steps p.tables e below (s₁.setTop (mkF m 1 #[.val (.ref r_WORD), .val (.int 90)] [(.ref r_WORD)])) _
    refine XS.iconst X0.here hx rfl (hb hby d3_1) ?_
    show Steps p.tables e below (s₁.setTop (mkF m 2 #[.val (.ref r_WORD), .val (.int 90)] [(.int 0), (.ref r_WORD)])) _
    refine XS.aloadN X0.here hx rfl (hb hby d3_2) rfl rfl ?_
    show Steps p.tables e below (s₁.setTop (mkF m 3 #[.val (.ref r_WORD), .val (.int 90)] [(.ref r_WORD), (.int 0), (.ref r_WORD)])) _
    refine own_lenz X0 hx hZ e0 V_r_WORD (g := (mkF m 3 #[.val (.ref r_WORD), .val (.int 90)] [(.ref r_WORD), (.int 0), (.ref r_WORD)])) rfl rfl (hb hby d3_3) _ ?_
    show Steps p.tables e below (s₁.setTop (mkF m 4 #[.val (.ref r_WORD), .val (.int 90)] [(.int 8), (.int 0), (.ref r_WORD)])) _
    refine XS.iloadN X0.here hx rfl (hb hby d3_4) rfl ?_
    show Steps p.tables e below (s₁.setTop (mkF m 5 #[.val (.ref r_WORD), .val (.int 90)] [(.int 90), (.int 8), (.int 0), (.ref r_WORD)])) _
    refine st1 _ ?_
    show Steps p.tables e below (T1.setTop (mkF m 8 #[.val (.ref r_WORD), .val (.int 90)] [(.int 3)])) _
    exact retI X1 hx Bd.returns (hb hby d3_8) hr
  · show Q3_r_WORD_90 Z r_WORD k_WORD h0 n0 _ T1.heap _
    rw [e1]
    exact ⟨rfl, N1, rfl⟩
def Q2_w_WORD_90_all_WORD (Z : State) (w_WORD : Addr) (r_WORD : Addr) (k_WORD : ClassId) (h0 : Heap) (n0 : Nat) (v : Option Value) (h : Heap) (L : List Loc) : Prop := v = some (.int (own_w (90 : Int32))) ∧ Fr n0 L ∧ h = h0
set_option maxRecDepth 65536 in
set_option maxHeartbeats 40000000 in
theorem rm2_w_WORD_90_all_WORD (l : Launch) (Z : State) (a0 : Array Value) (hw : ∀ d ∈ tables_1, d.before a0 Z = true) (ws : List Jvm.Cond) (w_WORD : Addr) (r_WORD : Addr) (k_WORD : ClassId) (h0 : Heap) (n0 : Nat) (Z0 : n0 ≤ h0.size) (F_ranges_w_WORD : Fld Z h0 w_WORD "com/example/termwell/termwell/core/text/CodePointSet" "ranges" "[I" (.ref r_WORD)) (V_r_WORD : Arv Z h0 r_WORD k_WORD .int (8 : Int32) [(.int 48), (.int 57), (.int 65), (.int 90), (.int 95), (.int 95), (.int 97), (.int 122)] (.int (0 : Int32))) (hret : (own_w (90 : Int32)) = (1 : Int32)) :
    MetFree l (⟨"com/example/termwell/termwell/core/text/CodePointSet", "contains", "(I)Z"⟩ : MethodName) (head1 (Jvm.Cond.code (⟨"com/example/termwell/termwell/core/text/CodePointSet", "contains", "(I)Z"⟩ : MethodName) prog_19_method_4_code 3 (some .boolean) :: ws) ({ frames := 2, cells := 0, slots := 0, locals := 32 } : Room)) (fun a U => a = #[(.ref w_WORD), (.int 90)] ∧ Z.Warmed39 U.vm ∧ U.heap = h0) (fun _ _ _ _ _ => True) (fun _ U o U' => ∃ v L, o = .returned v ∧ Q2_w_WORD_90_all_WORD Z w_WORD r_WORD k_WORD h0 n0 v U'.heap L ∧ FrameEnd U o U' L ({ frames := 2, cells := 0, slots := 0, locals := 32 } : Room).cells ({ frames := 2, cells := 0, slots := 0, locals := 32 } : Room).slots) := by
  refine MetFree.of_bodySF (plainFor_of_name pn_2) hisR ?_
  intro p e s m args below meth c s₁ Bd hml0 hP hK
  obtain ⟨rfl, hZ, hh⟩ := hP
  have hx := Bd.exec
  have hby := Bd.bytes
  have hml : c.maxLocals = 3 := hml0
  have hown : s.vm.findClass "com/example/termwell/termwell/core/text/CodePointSet" = some m.cls := findClass_of_methodNamed Bd.named
  have hnm := (name_of_methodNamed Bd.named Bd.method).1
  have X0 : Stand p l e ({ frames := 2, cells := 0, slots := 0, locals := 32 } : Room) s m #[(.ref w_WORD), (.int 90)] below meth c s₁ [] 0 0 := Stand.of_body Bd
  have e0 : s₁.heap = h0 := by rw [← hh, Bd.state]; rfl
  have N0 := Fr.nil n0
  have pre0 : ∀ t, Steps p.tables e below (s₁.setTop (mkF m 0 #[.val (.ref w_WORD), .val (.int 90), .unset] [])) t → Steps p.tables e below (s₁.setTop (entryFrame m #[(.ref w_WORD), (.int 90)] 3)) t := fun t k => castTop (by first | (simp [entryFrame, mkF, argsToLocals, Value.category]; done) | rfl) k
  obtain ⟨T1, X1, e1, st1⟩ := getF X0 hx hZ hown (host := "") (Or.inl (hw _ (List.mem_of_getElem? (i := 13) rfl))) Via.refl e0 F_ranges_w_WORD (g := (mkF m 1 #[.val (.ref w_WORD), .val (.int 90), .unset] [(.ref w_WORD)])) rfl rfl (hb hby d2_1)
  obtain ⟨_, _, ⟨T2, L2, k2, n2⟩, -, X2, ⟨Lc2, hQ2, l2, y2, z2⟩, st2⟩ := Jvm.LawKit.callS X1 hx (y := (⟨"java/util/Arrays", "binarySearch", "([II)I"⟩ : MethodName)) hown (mvT hZ (hw _ (List.mem_of_getElem? (i := 15) rfl))) (mvT hZ (hw _ (List.mem_of_getElem? (i := 16) rfl))) (mvT hZ (hw _ (List.mem_of_getElem? (i := 17) rfl))) (mvT hZ (hw _ (List.mem_of_getElem? (i := 18) rfl))) (by decide) (backOf (W := 0) (rm3_r_WORD_90 l Z a0 hw [] r_WORD k_WORD h0 n0 Z0 V_r_WORD) hZ (hw _ (List.mem_of_getElem? (i := 18) rfl)) (hw _ (List.mem_of_getElem? (i := 17) rfl)) (by decide) (by decide)) (g := (mkF m 5 #[.val (.ref w_WORD), .val (.int 90), .unset] [(.int 90), (.ref r_WORD)])) rfl (by rw [hml]; rfl) (argsL := [(.ref r_WORD), (.int 90)]) (rest := []) (lenOf pd___II_I rfl) rfl (by show 2 * 0 + _ ≤ _; exact Nat.le_of_eq rfl) (hb hby d2_5) (fun _ _ => ⟨rfl, e1, (by decide : 0 + 0 ≤ _), (by decide : 0 + 0 ≤ _)⟩)
  dsimp only [Pt.U, Pt.locs, Pt.cells, Pt.slots] at X2 l2 y2 z2 st2 hQ2
  subst l2 y2 z2
  obtain ⟨rfl, N2q, e2⟩ := hQ2
  have N2 := Fr.app N0 N2q
  obtain ⟨fs, hr, hrun, hended, hW, hsame⟩ := X2.leave (v := some (.int 1)) (fun h => by rw [Bd.returns] at h; cases h)
  refine ⟨_, _, pre0 _ ?_, hrun, hended, _, _, rfl, ?_, ⟨_, rfl⟩, hW, hsame.mono (by decide) (by decide)⟩
  · show Steps p.tables e below (s₁.setTop (mkF m 0 #[.val (.ref w_WORD), .val (.int 90), .unset] [])) _
    refine XS.aloadN X0.here hx rfl (hb hby d2_0) rfl rfl ?_
    show Steps p.tables e below (s₁.setTop (mkF m 1 #[.val (.ref w_WORD), .val (.int 90), .unset] [(.ref w_WORD)])) _
    refine st1 _ ?_
    show Steps p.tables e below (T1.setTop (mkF m 4 #[.val (.ref w_WORD), .val (.int 90), .unset] [(.ref r_WORD)])) _
    refine XS.iloadN X1.here hx rfl (hb hby d2_4) rfl ?_
    show Steps p.tables e below (T1.setTop (mkF m 5 #[.val (.ref w_WORD), .val (.int 90), .unset] [(.int 90), (.ref r_WORD)])) _
    refine st2 _ ?_
    show Steps p.tables e below (T2.setTop (mkF m 8 #[.val (.ref w_WORD), .val (.int 90), .unset] [(.int 3)])) _
    refine XS.istoreN X2.here hx rfl (hb hby d2_8) rfl (l' := #[.val (.ref w_WORD), .val (.int 90), .val (.int 3)]) rfl ?_
    show Steps p.tables e below (T2.setTop (mkF m 9 #[.val (.ref w_WORD), .val (.int 90), .val (.int 3)] [])) _
    refine XS.iloadN X2.here hx rfl (hb hby d2_9) rfl ?_
    show Steps p.tables e below (T2.setTop (mkF m 10 #[.val (.ref w_WORD), .val (.int 90), .val (.int 3)] [(.int 3)])) _
    refine XS.ifYes X2.here hx rfl (pc0 := 10) (pc' := 23) rfl (hb hby d2_10) rfl ((if0 _ _).trans (flt (by decide : ¬ ((3 : Int32) < (0 : Int32)))).2.1) (by decide) (by decide) ?_
    show Steps p.tables e below (T2.setTop (mkF m 23 #[.val (.ref w_WORD), .val (.int 90), .val (.int 3)] [])) _
    refine XS.iconst X2.here hx rfl (hb hby d2_23) ?_
    show Steps p.tables e below (T2.setTop (mkF m 24 #[.val (.ref w_WORD), .val (.int 90), .val (.int 3)] [(.int 1)])) _
    refine XS.goto X2.here hx rfl (pc0 := 24) (pc' := 28) rfl (hb hby d2_24) (by decide) (by decide) ?_
    show Steps p.tables e below (T2.setTop (mkF m 28 #[.val (.ref w_WORD), .val (.int 90), .val (.int 3)] [(.int 1)])) _
    exact retN X2 hx (t := .boolean) Bd.returns (by simp) (hb hby d2_28) hr
  · show Q2_w_WORD_90_all_WORD Z w_WORD r_WORD k_WORD h0 n0 _ T2.heap _
    rw [e2]
    exact ⟨(by rw [hret]), N2, rfl⟩
def Q4_r_WORD_0_8_x_90_95 (Z : State) (r_WORD : Addr) (x : Int32) (k_WORD : ClassId) (h0 : Heap) (n0 : Nat) (v : Option Value) (h : Heap) (L : List Loc) : Prop := v = some (.int (-5)) ∧ Fr n0 L ∧ h = h0
set_option maxRecDepth 65536 in
set_option maxHeartbeats 40000000 in
theorem rm4_r_WORD_0_8_x_90_95 (l : Launch) (Z : State) (a0 : Array Value) (hw : ∀ d ∈ tables_1, d.before a0 Z = true) (ws : List Jvm.Cond) (r_WORD : Addr) (x : Int32) (k_WORD : ClassId) (h0 : Heap) (n0 : Nat) (Z0 : n0 ≤ h0.size) (hlo_x : (90 : Int32) < x) (V_r_WORD : Arv Z h0 r_WORD k_WORD .int (8 : Int32) [(.int 48), (.int 57), (.int 65), (.int 90), (.int 95), (.int 95), (.int 97), (.int 122)] (.int (0 : Int32))) (hhi_x : x < (95 : Int32)) :
    MetFree l (⟨"java/util/Arrays", "binarySearch0", "([IIII)I"⟩ : MethodName) (head1 (Jvm.Cond.code (⟨"java/util/Arrays", "binarySearch0", "([IIII)I"⟩ : MethodName) jdk_65_method_59_code 8 (some .int) :: ws) ({ frames := 0, cells := 0, slots := 0, locals := 0 } : Room)) (fun a U => a = #[(.ref r_WORD), (.int 0), (.int 8), (.int x)] ∧ Z.Warmed39 U.vm ∧ U.heap = h0) (fun _ _ _ _ _ => True) (fun _ U o U' => ∃ v L, o = .returned v ∧ Q4_r_WORD_0_8_x_90_95 Z r_WORD x k_WORD h0 n0 v U'.heap L ∧ FrameEnd U o U' L ({ frames := 0, cells := 0, slots := 0, locals := 0 } : Room).cells ({ frames := 0, cells := 0, slots := 0, locals := 0 } : Room).slots) := by
  refine MetFree.of_bodySF (plainFor_of_name pn_4) hisR ?_
  intro p e s m args below meth c s₁ Bd hml0 hP hK
  obtain ⟨rfl, hZ, hh⟩ := hP
  have hx := Bd.exec
  have hby := Bd.bytes
  have hml : c.maxLocals = 8 := hml0
  have hown : s.vm.findClass "java/util/Arrays" = some m.cls := findClass_of_methodNamed Bd.named
  have hnm := (name_of_methodNamed Bd.named Bd.method).1
  have X0 : Stand p l e ({ frames := 0, cells := 0, slots := 0, locals := 0 } : Room) s m #[(.ref r_WORD), (.int 0), (.int 8), (.int x)] below meth c s₁ [] 0 0 := Stand.of_body Bd
  have e0 : s₁.heap = h0 := by rw [← hh, Bd.state]; rfl
  have N0 := Fr.nil n0
  have pre0 : ∀ t, Steps p.tables e below (s₁.setTop (mkF m 0 #[.val (.ref r_WORD), .val (.int 0), .val (.int 8), .val (.int x), .unset, .unset, .unset, .unset] [])) t → Steps p.tables e below (s₁.setTop (entryFrame m #[(.ref r_WORD), (.int 0), (.int 8), (.int x)] 8)) t := fun t k => castTop (by first | (simp [entryFrame, mkF, argsToLocals, Value.category]; done) | rfl) k
  obtain ⟨fs, hr, hrun, hended, hW, hsame⟩ := X0.leave (v := some (.int (-5))) (fun h => by rw [Bd.returns] at h; cases h)
  refine ⟨_, _, pre0 _ ?_, hrun, hended, _, _, rfl, ?_, ⟨_, rfl⟩, hW, hsame.mono (by decide) (by decide)⟩
  · show Steps p.tables e below (s₁.setTop (mkF m 0 #[.val (.ref r_WORD), .val (.int 0), .val (.int 8), .val (.int x), .unset, .unset, .unset, .unset] [])) _
    refine XS.iloadN X0.here hx rfl (hb hby d4_0) rfl ?_
    show Steps p.tables e below (s₁.setTop (mkF m 1 #[.val (.ref r_WORD), .val (.int 0), .val (.int 8), .val (.int x), .unset, .unset, .unset, .unset] [(.int 0)])) _
    refine XS.istore X0.here hx rfl (hb hby d4_1) rfl (l' := #[.val (.ref r_WORD), .val (.int 0), .val (.int 8), .val (.int x), .val (.int 0), .unset, .unset, .unset]) rfl ?_
    show Steps p.tables e below (s₁.setTop (mkF m 3 #[.val (.ref r_WORD), .val (.int 0), .val (.int 8), .val (.int x), .val (.int 0), .unset, .unset, .unset] [])) _
    refine XS.iloadN X0.here hx rfl (hb hby d4_3) rfl ?_
    show Steps p.tables e below (s₁.setTop (mkF m 4 #[.val (.ref r_WORD), .val (.int 0), .val (.int 8), .val (.int x), .val (.int 0), .unset, .unset, .unset] [(.int 8)])) _
    refine XS.iconst X0.here hx rfl (hb hby d4_4) ?_
    show Steps p.tables e below (s₁.setTop (mkF m 5 #[.val (.ref r_WORD), .val (.int 0), .val (.int 8), .val (.int x), .val (.int 0), .unset, .unset, .unset] [(.int 1), (.int 8)])) _
    refine XS.isub X0.here hx rfl (hb hby d4_5) rfl ?_
    show Steps p.tables e below (s₁.setTop (mkF m 6 #[.val (.ref r_WORD), .val (.int 0), .val (.int 8), .val (.int x), .val (.int 0), .unset, .unset, .unset] [(.int ((8 : Int32) - (1 : Int32)))])) _
    rw [(by decide : ((8 : Int32) - (1 : Int32)) = (7 : Int32))]
    show Steps p.tables e below (s₁.setTop (mkF m 6 #[.val (.ref r_WORD), .val (.int 0), .val (.int 8), .val (.int x), .val (.int 0), .unset, .unset, .unset] [(.int 7)])) _
    refine XS.istore X0.here hx rfl (hb hby d4_6) rfl (l' := #[.val (.ref r_WORD), .val (.int 0), .val (.int 8), .val (.int x), .val (.int 0), .val (.int 7), .unset, .unset]) rfl ?_
    show Steps p.tables e below (s₁.setTop (mkF m 8 #[.val (.ref r_WORD), .val (.int 0), .val (.int 8), .val (.int x), .val (.int 0), .val (.int 7), .unset, .unset] [])) _
    refine tnLu r_WORD (0 : Int32) (8 : Int32) x (0 : Int32) (7 : Int32) (3 : Int32) k_WORD (8 : Int32) [(.int 48), (.int 57), (.int 65), (.int 90), (.int 95), (.int 95), (.int 97), (.int 122)] (.int (0 : Int32)) (90 : Int32) (4 : Int32) X0 hx hZ hby e0 (by decide) (by decide) V_r_WORD ⟨by decide, by decide⟩ rfl (own_gt hlo_x (by decide)) (by decide) _ ?_
    show Steps p.tables e below (s₁.setTop (mkF m 8 #[.val (.ref r_WORD), .val (.int 0), .val (.int 8), .val (.int x), .val (.int 4), .val (.int 7), .val (.int 3), .val (.int 90)] [])) _
    refine tnGv r_WORD (0 : Int32) (8 : Int32) x (4 : Int32) (7 : Int32) (3 : Int32) (90 : Int32) (5 : Int32) k_WORD (8 : Int32) [(.int 48), (.int 57), (.int 65), (.int 90), (.int 95), (.int 95), (.int 97), (.int 122)] (.int (0 : Int32)) (95 : Int32) (4 : Int32) X0 hx hZ hby e0 (by decide) (by decide) V_r_WORD ⟨by decide, by decide⟩ rfl (own_ngt hhi_x (by decide)) (own_lt hhi_x (by decide)) (by decide) _ ?_
    show Steps p.tables e below (s₁.setTop (mkF m 8 #[.val (.ref r_WORD), .val (.int 0), .val (.int 8), .val (.int x), .val (.int 4), .val (.int 4), .val (.int 5), .val (.int 95)] [])) _
    refine tnGv r_WORD (0 : Int32) (8 : Int32) x (4 : Int32) (4 : Int32) (5 : Int32) (95 : Int32) (4 : Int32) k_WORD (8 : Int32) [(.int 48), (.int 57), (.int 65), (.int 90), (.int 95), (.int 95), (.int 97), (.int 122)] (.int (0 : Int32)) (95 : Int32) (3 : Int32) X0 hx hZ hby e0 (by decide) (by decide) V_r_WORD ⟨by decide, by decide⟩ rfl (own_ngt hhi_x (by decide)) (own_lt hhi_x (by decide)) (by decide) _ ?_
    show Steps p.tables e below (s₁.setTop (mkF m 8 #[.val (.ref r_WORD), .val (.int 0), .val (.int 8), .val (.int x), .val (.int 4), .val (.int 3), .val (.int 4), .val (.int 95)] [])) _
    refine XS.iload X0.here hx rfl (hb hby d4_8) rfl ?_
    show Steps p.tables e below (s₁.setTop (mkF m 10 #[.val (.ref r_WORD), .val (.int 0), .val (.int 8), .val (.int x), .val (.int 4), .val (.int 3), .val (.int 4), .val (.int 95)] [(.int 4)])) _
    refine XS.iload X0.here hx rfl (hb hby d4_10) rfl ?_
    show Steps p.tables e below (s₁.setTop (mkF m 12 #[.val (.ref r_WORD), .val (.int 0), .val (.int 8), .val (.int x), .val (.int 4), .val (.int 3), .val (.int 4), .val (.int 95)] [(.int 3), (.int 4)])) _
    refine XS.icmpYes X0.here hx rfl (pc0 := 12) (pc' := 66) rfl (hb hby d4_12) rfl (tlt (by decide : (3 : Int32) < (4 : Int32))).2.2.1 (by decide) (by decide) ?_
    show Steps p.tables e below (s₁.setTop (mkF m 66 #[.val (.ref r_WORD), .val (.int 0), .val (.int 8), .val (.int x), .val (.int 4), .val (.int 3), .val (.int 4), .val (.int 95)] [])) _
    refine XS.iload X0.here hx rfl (hb hby d4_66) rfl ?_
    show Steps p.tables e below (s₁.setTop (mkF m 68 #[.val (.ref r_WORD), .val (.int 0), .val (.int 8), .val (.int x), .val (.int 4), .val (.int 3), .val (.int 4), .val (.int 95)] [(.int 4)])) _
    refine XS.iconst X0.here hx rfl (hb hby d4_68) ?_
    show Steps p.tables e below (s₁.setTop (mkF m 69 #[.val (.ref r_WORD), .val (.int 0), .val (.int 8), .val (.int x), .val (.int 4), .val (.int 3), .val (.int 4), .val (.int 95)] [(.int 1), (.int 4)])) _
    refine XS.iadd X0.here hx rfl (hb hby d4_69) rfl ?_
    show Steps p.tables e below (s₁.setTop (mkF m 70 #[.val (.ref r_WORD), .val (.int 0), .val (.int 8), .val (.int x), .val (.int 4), .val (.int 3), .val (.int 4), .val (.int 95)] [(.int ((4 : Int32) + (1 : Int32)))])) _
    rw [(by decide : ((4 : Int32) + (1 : Int32)) = (5 : Int32))]
    show Steps p.tables e below (s₁.setTop (mkF m 70 #[.val (.ref r_WORD), .val (.int 0), .val (.int 8), .val (.int x), .val (.int 4), .val (.int 3), .val (.int 4), .val (.int 95)] [(.int 5)])) _
    refine XS.ineg X0.here hx rfl (hb hby d4_70) rfl ?_
    show Steps p.tables e below (s₁.setTop (mkF m 71 #[.val (.ref r_WORD), .val (.int 0), .val (.int 8), .val (.int x), .val (.int 4), .val (.int 3), .val (.int 4), .val (.int 95)] [(.int (-(5 : Int32)))])) _
    rw [(by decide : (-(5 : Int32)) = (-5 : Int32))]
    show Steps p.tables e below (s₁.setTop (mkF m 71 #[.val (.ref r_WORD), .val (.int 0), .val (.int 8), .val (.int x), .val (.int 4), .val (.int 3), .val (.int 4), .val (.int 95)] [(.int (-5))])) _
    exact retI X0 hx Bd.returns (hb hby d4_71) hr
  · show Q4_r_WORD_0_8_x_90_95 Z r_WORD x k_WORD h0 n0 _ s₁.heap _
    rw [e0]
    exact ⟨rfl, N0, rfl⟩
def Q3_r_WORD_x_90_95 (Z : State) (r_WORD : Addr) (x : Int32) (k_WORD : ClassId) (h0 : Heap) (n0 : Nat) (v : Option Value) (h : Heap) (L : List Loc) : Prop := v = some (.int (-5)) ∧ Fr n0 L ∧ h = h0
set_option maxRecDepth 65536 in
set_option maxHeartbeats 40000000 in
theorem rm3_r_WORD_x_90_95 (l : Launch) (Z : State) (a0 : Array Value) (hw : ∀ d ∈ tables_1, d.before a0 Z = true) (ws : List Jvm.Cond) (r_WORD : Addr) (x : Int32) (k_WORD : ClassId) (h0 : Heap) (n0 : Nat) (Z0 : n0 ≤ h0.size) (V_r_WORD : Arv Z h0 r_WORD k_WORD .int (8 : Int32) [(.int 48), (.int 57), (.int 65), (.int 90), (.int 95), (.int 95), (.int 97), (.int 122)] (.int (0 : Int32))) (hlo_x : (90 : Int32) < x) (hhi_x : x < (95 : Int32)) :
    MetFree l (⟨"java/util/Arrays", "binarySearch", "([II)I"⟩ : MethodName) (head1 (Jvm.Cond.code (⟨"java/util/Arrays", "binarySearch", "([II)I"⟩ : MethodName) jdk_65_method_57_code 2 (some .int) :: ws) ({ frames := 1, cells := 0, slots := 0, locals := 19 } : Room)) (fun a U => a = #[(.ref r_WORD), (.int x)] ∧ Z.Warmed39 U.vm ∧ U.heap = h0) (fun _ _ _ _ _ => True) (fun _ U o U' => ∃ v L, o = .returned v ∧ Q3_r_WORD_x_90_95 Z r_WORD x k_WORD h0 n0 v U'.heap L ∧ FrameEnd U o U' L ({ frames := 1, cells := 0, slots := 0, locals := 19 } : Room).cells ({ frames := 1, cells := 0, slots := 0, locals := 19 } : Room).slots) := by
  refine MetFree.of_bodySF (plainFor_of_name pn_3) hisR ?_
  intro p e s m args below meth c s₁ Bd hml0 hP hK
  obtain ⟨rfl, hZ, hh⟩ := hP
  have hx := Bd.exec
  have hby := Bd.bytes
  have hml : c.maxLocals = 2 := hml0
  have hown : s.vm.findClass "java/util/Arrays" = some m.cls := findClass_of_methodNamed Bd.named
  have hnm := (name_of_methodNamed Bd.named Bd.method).1
  have X0 : Stand p l e ({ frames := 1, cells := 0, slots := 0, locals := 19 } : Room) s m #[(.ref r_WORD), (.int x)] below meth c s₁ [] 0 0 := Stand.of_body Bd
  have e0 : s₁.heap = h0 := by rw [← hh, Bd.state]; rfl
  have N0 := Fr.nil n0
  have pre0 : ∀ t, Steps p.tables e below (s₁.setTop (mkF m 0 #[.val (.ref r_WORD), .val (.int x)] [])) t → Steps p.tables e below (s₁.setTop (entryFrame m #[(.ref r_WORD), (.int x)] 2)) t := fun t k => castTop (by first | (simp [entryFrame, mkF, argsToLocals, Value.category]; done) | rfl) k
  obtain ⟨_, _, ⟨T1, L1, k1, n1⟩, -, X1, ⟨Lc1, hQ1, l1, y1, z1⟩, st1⟩ := Jvm.LawKit.callS X0 hx (y := (⟨"java/util/Arrays", "binarySearch0", "([IIII)I"⟩ : MethodName)) hown (mvT hZ (hw _ (List.mem_of_getElem? (i := 19) rfl))) (mvT hZ (hw _ (List.mem_of_getElem? (i := 20) rfl))) (mvT hZ (hw _ (List.mem_of_getElem? (i := 17) rfl))) (mvT hZ (hw _ (List.mem_of_getElem? (i := 21) rfl))) (by decide) (backOf (W := 0) (rm4_r_WORD_0_8_x_90_95 l Z a0 hw [] r_WORD x k_WORD h0 n0 Z0 hlo_x V_r_WORD hhi_x) hZ (hw _ (List.mem_of_getElem? (i := 21) rfl)) (hw _ (List.mem_of_getElem? (i := 17) rfl)) (by decide) (by decide)) (g := (mkF m 5 #[.val (.ref r_WORD), .val (.int x)] [(.int x), (.int 8), (.int 0), (.ref r_WORD)])) rfl (by rw [hml]; rfl) (argsL := [(.ref r_WORD), (.int 0), (.int 8), (.int x)]) (rest := []) (lenOf pd___IIII_I rfl) rfl (by show 2 * 0 + _ ≤ _; exact Nat.le_of_eq rfl) (hb hby d3_5) (fun _ _ => ⟨rfl, e0, (by decide : 0 + 0 ≤ _), (by decide : 0 + 0 ≤ _)⟩)
  dsimp only [Pt.U, Pt.locs, Pt.cells, Pt.slots] at X1 l1 y1 z1 st1 hQ1
  subst l1 y1 z1
  obtain ⟨rfl, N1q, e1⟩ := hQ1
  have N1 := Fr.app N0 N1q
  obtain ⟨fs, hr, hrun, hended, hW, hsame⟩ := X1.leave (v := some (.int (-5))) (fun h => by rw [Bd.returns] at h; cases h)
  refine ⟨_, _, pre0 _ ?_, hrun, hended, _, _, rfl, ?_, ⟨_, rfl⟩, hW, hsame.mono (by decide) (by decide)⟩
  · show Steps p.tables e below (s₁.setTop (mkF m 0 #[.val (.ref r_WORD), .val (.int x)] [])) _
    refine XS.aloadN X0.here hx rfl (hb hby d3_0) rfl rfl ?_
    show Steps p.tables e below (s₁.setTop (mkF m 1 #[.val (.ref r_WORD), .val (.int x)] [(.ref r_WORD)])) _
    refine XS.iconst X0.here hx rfl (hb hby d3_1) ?_
    show Steps p.tables e below (s₁.setTop (mkF m 2 #[.val (.ref r_WORD), .val (.int x)] [(.int 0), (.ref r_WORD)])) _
    refine XS.aloadN X0.here hx rfl (hb hby d3_2) rfl rfl ?_
    show Steps p.tables e below (s₁.setTop (mkF m 3 #[.val (.ref r_WORD), .val (.int x)] [(.ref r_WORD), (.int 0), (.ref r_WORD)])) _
    refine own_lenz X0 hx hZ e0 V_r_WORD (g := (mkF m 3 #[.val (.ref r_WORD), .val (.int x)] [(.ref r_WORD), (.int 0), (.ref r_WORD)])) rfl rfl (hb hby d3_3) _ ?_
    show Steps p.tables e below (s₁.setTop (mkF m 4 #[.val (.ref r_WORD), .val (.int x)] [(.int 8), (.int 0), (.ref r_WORD)])) _
    refine XS.iloadN X0.here hx rfl (hb hby d3_4) rfl ?_
    show Steps p.tables e below (s₁.setTop (mkF m 5 #[.val (.ref r_WORD), .val (.int x)] [(.int x), (.int 8), (.int 0), (.ref r_WORD)])) _
    refine st1 _ ?_
    show Steps p.tables e below (T1.setTop (mkF m 8 #[.val (.ref r_WORD), .val (.int x)] [(.int (-5))])) _
    exact retI X1 hx Bd.returns (hb hby d3_8) hr
  · show Q3_r_WORD_x_90_95 Z r_WORD x k_WORD h0 n0 _ T1.heap _
    rw [e1]
    exact ⟨rfl, N1, rfl⟩
def Q2_w_WORD_x_90_95_all_WORD (Z : State) (w_WORD : Addr) (x : Int32) (r_WORD : Addr) (k_WORD : ClassId) (h0 : Heap) (n0 : Nat) (v : Option Value) (h : Heap) (L : List Loc) : Prop := v = some (.int (own_w x)) ∧ Fr n0 L ∧ h = h0
set_option maxRecDepth 65536 in
set_option maxHeartbeats 40000000 in
theorem rm2_w_WORD_x_90_95_all_WORD (l : Launch) (Z : State) (a0 : Array Value) (hw : ∀ d ∈ tables_1, d.before a0 Z = true) (ws : List Jvm.Cond) (w_WORD : Addr) (x : Int32) (r_WORD : Addr) (k_WORD : ClassId) (h0 : Heap) (n0 : Nat) (Z0 : n0 ≤ h0.size) (F_ranges_w_WORD : Fld Z h0 w_WORD "com/example/termwell/termwell/core/text/CodePointSet" "ranges" "[I" (.ref r_WORD)) (V_r_WORD : Arv Z h0 r_WORD k_WORD .int (8 : Int32) [(.int 48), (.int 57), (.int 65), (.int 90), (.int 95), (.int 95), (.int 97), (.int 122)] (.int (0 : Int32))) (hlo_x : (90 : Int32) < x) (hhi_x : x < (95 : Int32)) (hret : (own_w x) = (0 : Int32)) :
    MetFree l (⟨"com/example/termwell/termwell/core/text/CodePointSet", "contains", "(I)Z"⟩ : MethodName) (head1 (Jvm.Cond.code (⟨"com/example/termwell/termwell/core/text/CodePointSet", "contains", "(I)Z"⟩ : MethodName) prog_19_method_4_code 3 (some .boolean) :: ws) ({ frames := 2, cells := 0, slots := 0, locals := 32 } : Room)) (fun a U => a = #[(.ref w_WORD), (.int x)] ∧ Z.Warmed39 U.vm ∧ U.heap = h0) (fun _ _ _ _ _ => True) (fun _ U o U' => ∃ v L, o = .returned v ∧ Q2_w_WORD_x_90_95_all_WORD Z w_WORD x r_WORD k_WORD h0 n0 v U'.heap L ∧ FrameEnd U o U' L ({ frames := 2, cells := 0, slots := 0, locals := 32 } : Room).cells ({ frames := 2, cells := 0, slots := 0, locals := 32 } : Room).slots) := by
  refine MetFree.of_bodySF (plainFor_of_name pn_2) hisR ?_
  intro p e s m args below meth c s₁ Bd hml0 hP hK
  obtain ⟨rfl, hZ, hh⟩ := hP
  have hx := Bd.exec
  have hby := Bd.bytes
  have hml : c.maxLocals = 3 := hml0
  have hown : s.vm.findClass "com/example/termwell/termwell/core/text/CodePointSet" = some m.cls := findClass_of_methodNamed Bd.named
  have hnm := (name_of_methodNamed Bd.named Bd.method).1
  have X0 : Stand p l e ({ frames := 2, cells := 0, slots := 0, locals := 32 } : Room) s m #[(.ref w_WORD), (.int x)] below meth c s₁ [] 0 0 := Stand.of_body Bd
  have e0 : s₁.heap = h0 := by rw [← hh, Bd.state]; rfl
  have N0 := Fr.nil n0
  have pre0 : ∀ t, Steps p.tables e below (s₁.setTop (mkF m 0 #[.val (.ref w_WORD), .val (.int x), .unset] [])) t → Steps p.tables e below (s₁.setTop (entryFrame m #[(.ref w_WORD), (.int x)] 3)) t := fun t k => castTop (by first | (simp [entryFrame, mkF, argsToLocals, Value.category]; done) | rfl) k
  obtain ⟨T1, X1, e1, st1⟩ := getF X0 hx hZ hown (host := "") (Or.inl (hw _ (List.mem_of_getElem? (i := 13) rfl))) Via.refl e0 F_ranges_w_WORD (g := (mkF m 1 #[.val (.ref w_WORD), .val (.int x), .unset] [(.ref w_WORD)])) rfl rfl (hb hby d2_1)
  obtain ⟨_, _, ⟨T2, L2, k2, n2⟩, -, X2, ⟨Lc2, hQ2, l2, y2, z2⟩, st2⟩ := Jvm.LawKit.callS X1 hx (y := (⟨"java/util/Arrays", "binarySearch", "([II)I"⟩ : MethodName)) hown (mvT hZ (hw _ (List.mem_of_getElem? (i := 15) rfl))) (mvT hZ (hw _ (List.mem_of_getElem? (i := 16) rfl))) (mvT hZ (hw _ (List.mem_of_getElem? (i := 17) rfl))) (mvT hZ (hw _ (List.mem_of_getElem? (i := 18) rfl))) (by decide) (backOf (W := 0) (rm3_r_WORD_x_90_95 l Z a0 hw [] r_WORD x k_WORD h0 n0 Z0 V_r_WORD hlo_x hhi_x) hZ (hw _ (List.mem_of_getElem? (i := 18) rfl)) (hw _ (List.mem_of_getElem? (i := 17) rfl)) (by decide) (by decide)) (g := (mkF m 5 #[.val (.ref w_WORD), .val (.int x), .unset] [(.int x), (.ref r_WORD)])) rfl (by rw [hml]; rfl) (argsL := [(.ref r_WORD), (.int x)]) (rest := []) (lenOf pd___II_I rfl) rfl (by show 2 * 0 + _ ≤ _; exact Nat.le_of_eq rfl) (hb hby d2_5) (fun _ _ => ⟨rfl, e1, (by decide : 0 + 0 ≤ _), (by decide : 0 + 0 ≤ _)⟩)
  dsimp only [Pt.U, Pt.locs, Pt.cells, Pt.slots] at X2 l2 y2 z2 st2 hQ2
  subst l2 y2 z2
  obtain ⟨rfl, N2q, e2⟩ := hQ2
  have N2 := Fr.app N0 N2q
  obtain ⟨fs, hr, hrun, hended, hW, hsame⟩ := X2.leave (v := some (.int 0)) (fun h => by rw [Bd.returns] at h; cases h)
  refine ⟨_, _, pre0 _ ?_, hrun, hended, _, _, rfl, ?_, ⟨_, rfl⟩, hW, hsame.mono (by decide) (by decide)⟩
  · show Steps p.tables e below (s₁.setTop (mkF m 0 #[.val (.ref w_WORD), .val (.int x), .unset] [])) _
    refine XS.aloadN X0.here hx rfl (hb hby d2_0) rfl rfl ?_
    show Steps p.tables e below (s₁.setTop (mkF m 1 #[.val (.ref w_WORD), .val (.int x), .unset] [(.ref w_WORD)])) _
    refine st1 _ ?_
    show Steps p.tables e below (T1.setTop (mkF m 4 #[.val (.ref w_WORD), .val (.int x), .unset] [(.ref r_WORD)])) _
    refine XS.iloadN X1.here hx rfl (hb hby d2_4) rfl ?_
    show Steps p.tables e below (T1.setTop (mkF m 5 #[.val (.ref w_WORD), .val (.int x), .unset] [(.int x), (.ref r_WORD)])) _
    refine st2 _ ?_
    show Steps p.tables e below (T2.setTop (mkF m 8 #[.val (.ref w_WORD), .val (.int x), .unset] [(.int (-5))])) _
    refine XS.istoreN X2.here hx rfl (hb hby d2_8) rfl (l' := #[.val (.ref w_WORD), .val (.int x), .val (.int (-5))]) rfl ?_
    show Steps p.tables e below (T2.setTop (mkF m 9 #[.val (.ref w_WORD), .val (.int x), .val (.int (-5))] [])) _
    refine XS.iloadN X2.here hx rfl (hb hby d2_9) rfl ?_
    show Steps p.tables e below (T2.setTop (mkF m 10 #[.val (.ref w_WORD), .val (.int x), .val (.int (-5))] [(.int (-5))])) _
    refine XS.ifNo X2.here hx rfl (hb hby d2_10) rfl ((if0 _ _).trans (tlt (by decide : (-5 : Int32) < (0 : Int32))).2.1) ?_
    show Steps p.tables e below (T2.setTop (mkF m 13 #[.val (.ref w_WORD), .val (.int x), .val (.int (-5))] [])) _
    refine XS.iloadN X2.here hx rfl (hb hby d2_13) rfl ?_
    show Steps p.tables e below (T2.setTop (mkF m 14 #[.val (.ref w_WORD), .val (.int x), .val (.int (-5))] [(.int (-5))])) _
    refine XS.ineg X2.here hx rfl (hb hby d2_14) rfl ?_
    show Steps p.tables e below (T2.setTop (mkF m 15 #[.val (.ref w_WORD), .val (.int x), .val (.int (-5))] [(.int (-(-5 : Int32)))])) _
    rw [(by decide : (-(-5 : Int32)) = (5 : Int32))]
    show Steps p.tables e below (T2.setTop (mkF m 15 #[.val (.ref w_WORD), .val (.int x), .val (.int (-5))] [(.int 5)])) _
    refine XS.iconst X2.here hx rfl (hb hby d2_15) ?_
    show Steps p.tables e below (T2.setTop (mkF m 16 #[.val (.ref w_WORD), .val (.int x), .val (.int (-5))] [(.int 1), (.int 5)])) _
    refine XS.isub X2.here hx rfl (hb hby d2_16) rfl ?_
    show Steps p.tables e below (T2.setTop (mkF m 17 #[.val (.ref w_WORD), .val (.int x), .val (.int (-5))] [(.int ((5 : Int32) - (1 : Int32)))])) _
    rw [(by decide : ((5 : Int32) - (1 : Int32)) = (4 : Int32))]
    show Steps p.tables e below (T2.setTop (mkF m 17 #[.val (.ref w_WORD), .val (.int x), .val (.int (-5))] [(.int 4)])) _
    refine XS.iconst X2.here hx rfl (hb hby d2_17) ?_
    show Steps p.tables e below (T2.setTop (mkF m 18 #[.val (.ref w_WORD), .val (.int x), .val (.int (-5))] [(.int 2), (.int 4)])) _
    refine iremM X2 hx rfl (hb hby d2_18) rfl (by decide) ?_
    show Steps p.tables e below (T2.setTop (mkF m 19 #[.val (.ref w_WORD), .val (.int x), .val (.int (-5))] [(.int ((4 : Int32) % (2 : Int32)))])) _
    rw [(by decide : ((4 : Int32) % (2 : Int32)) = (0 : Int32))]
    show Steps p.tables e below (T2.setTop (mkF m 19 #[.val (.ref w_WORD), .val (.int x), .val (.int (-5))] [(.int 0)])) _
    refine XS.iconst X2.here hx rfl (hb hby d2_19) ?_
    show Steps p.tables e below (T2.setTop (mkF m 20 #[.val (.ref w_WORD), .val (.int x), .val (.int (-5))] [(.int 1), (.int 0)])) _
    refine XS.icmpYes X2.here hx rfl (pc0 := 20) (pc' := 27) rfl (hb hby d2_20) rfl (feq (by decide : ¬ ((0 : Int32) = (1 : Int32)))).2 (by decide) (by decide) ?_
    show Steps p.tables e below (T2.setTop (mkF m 27 #[.val (.ref w_WORD), .val (.int x), .val (.int (-5))] [])) _
    refine XS.iconst X2.here hx rfl (hb hby d2_27) ?_
    show Steps p.tables e below (T2.setTop (mkF m 28 #[.val (.ref w_WORD), .val (.int x), .val (.int (-5))] [(.int 0)])) _
    exact retN X2 hx (t := .boolean) Bd.returns (by simp) (hb hby d2_28) hr
  · show Q2_w_WORD_x_90_95_all_WORD Z w_WORD x r_WORD k_WORD h0 n0 _ T2.heap _
    rw [e2]
    exact ⟨(by rw [hret]), N2, rfl⟩
def Q4_r_WORD_0_8_95 (Z : State) (r_WORD : Addr) (k_WORD : ClassId) (h0 : Heap) (n0 : Nat) (v : Option Value) (h : Heap) (L : List Loc) : Prop := v = some (.int 5) ∧ Fr n0 L ∧ h = h0
set_option maxRecDepth 65536 in
set_option maxHeartbeats 40000000 in
theorem rm4_r_WORD_0_8_95 (l : Launch) (Z : State) (a0 : Array Value) (hw : ∀ d ∈ tables_1, d.before a0 Z = true) (ws : List Jvm.Cond) (r_WORD : Addr) (k_WORD : ClassId) (h0 : Heap) (n0 : Nat) (Z0 : n0 ≤ h0.size) (V_r_WORD : Arv Z h0 r_WORD k_WORD .int (8 : Int32) [(.int 48), (.int 57), (.int 65), (.int 90), (.int 95), (.int 95), (.int 97), (.int 122)] (.int (0 : Int32))) :
    MetFree l (⟨"java/util/Arrays", "binarySearch0", "([IIII)I"⟩ : MethodName) (head1 (Jvm.Cond.code (⟨"java/util/Arrays", "binarySearch0", "([IIII)I"⟩ : MethodName) jdk_65_method_59_code 8 (some .int) :: ws) ({ frames := 0, cells := 0, slots := 0, locals := 0 } : Room)) (fun a U => a = #[(.ref r_WORD), (.int 0), (.int 8), (.int 95)] ∧ Z.Warmed39 U.vm ∧ U.heap = h0) (fun _ _ _ _ _ => True) (fun _ U o U' => ∃ v L, o = .returned v ∧ Q4_r_WORD_0_8_95 Z r_WORD k_WORD h0 n0 v U'.heap L ∧ FrameEnd U o U' L ({ frames := 0, cells := 0, slots := 0, locals := 0 } : Room).cells ({ frames := 0, cells := 0, slots := 0, locals := 0 } : Room).slots) := by
  refine MetFree.of_bodySF (plainFor_of_name pn_4) hisR ?_
  intro p e s m args below meth c s₁ Bd hml0 hP hK
  obtain ⟨rfl, hZ, hh⟩ := hP
  have hx := Bd.exec
  have hby := Bd.bytes
  have hml : c.maxLocals = 8 := hml0
  have hown : s.vm.findClass "java/util/Arrays" = some m.cls := findClass_of_methodNamed Bd.named
  have hnm := (name_of_methodNamed Bd.named Bd.method).1
  have X0 : Stand p l e ({ frames := 0, cells := 0, slots := 0, locals := 0 } : Room) s m #[(.ref r_WORD), (.int 0), (.int 8), (.int 95)] below meth c s₁ [] 0 0 := Stand.of_body Bd
  have e0 : s₁.heap = h0 := by rw [← hh, Bd.state]; rfl
  have N0 := Fr.nil n0
  have pre0 : ∀ t, Steps p.tables e below (s₁.setTop (mkF m 0 #[.val (.ref r_WORD), .val (.int 0), .val (.int 8), .val (.int 95), .unset, .unset, .unset, .unset] [])) t → Steps p.tables e below (s₁.setTop (entryFrame m #[(.ref r_WORD), (.int 0), (.int 8), (.int 95)] 8)) t := fun t k => castTop (by first | (simp [entryFrame, mkF, argsToLocals, Value.category]; done) | rfl) k
  obtain ⟨fs, hr, hrun, hended, hW, hsame⟩ := X0.leave (v := some (.int 5)) (fun h => by rw [Bd.returns] at h; cases h)
  refine ⟨_, _, pre0 _ ?_, hrun, hended, _, _, rfl, ?_, ⟨_, rfl⟩, hW, hsame.mono (by decide) (by decide)⟩
  · show Steps p.tables e below (s₁.setTop (mkF m 0 #[.val (.ref r_WORD), .val (.int 0), .val (.int 8), .val (.int 95), .unset, .unset, .unset, .unset] [])) _
    refine XS.iloadN X0.here hx rfl (hb hby d4_0) rfl ?_
    show Steps p.tables e below (s₁.setTop (mkF m 1 #[.val (.ref r_WORD), .val (.int 0), .val (.int 8), .val (.int 95), .unset, .unset, .unset, .unset] [(.int 0)])) _
    refine XS.istore X0.here hx rfl (hb hby d4_1) rfl (l' := #[.val (.ref r_WORD), .val (.int 0), .val (.int 8), .val (.int 95), .val (.int 0), .unset, .unset, .unset]) rfl ?_
    show Steps p.tables e below (s₁.setTop (mkF m 3 #[.val (.ref r_WORD), .val (.int 0), .val (.int 8), .val (.int 95), .val (.int 0), .unset, .unset, .unset] [])) _
    refine XS.iloadN X0.here hx rfl (hb hby d4_3) rfl ?_
    show Steps p.tables e below (s₁.setTop (mkF m 4 #[.val (.ref r_WORD), .val (.int 0), .val (.int 8), .val (.int 95), .val (.int 0), .unset, .unset, .unset] [(.int 8)])) _
    refine XS.iconst X0.here hx rfl (hb hby d4_4) ?_
    show Steps p.tables e below (s₁.setTop (mkF m 5 #[.val (.ref r_WORD), .val (.int 0), .val (.int 8), .val (.int 95), .val (.int 0), .unset, .unset, .unset] [(.int 1), (.int 8)])) _
    refine XS.isub X0.here hx rfl (hb hby d4_5) rfl ?_
    show Steps p.tables e below (s₁.setTop (mkF m 6 #[.val (.ref r_WORD), .val (.int 0), .val (.int 8), .val (.int 95), .val (.int 0), .unset, .unset, .unset] [(.int ((8 : Int32) - (1 : Int32)))])) _
    rw [(by decide : ((8 : Int32) - (1 : Int32)) = (7 : Int32))]
    show Steps p.tables e below (s₁.setTop (mkF m 6 #[.val (.ref r_WORD), .val (.int 0), .val (.int 8), .val (.int 95), .val (.int 0), .unset, .unset, .unset] [(.int 7)])) _
    refine XS.istore X0.here hx rfl (hb hby d4_6) rfl (l' := #[.val (.ref r_WORD), .val (.int 0), .val (.int 8), .val (.int 95), .val (.int 0), .val (.int 7), .unset, .unset]) rfl ?_
    show Steps p.tables e below (s₁.setTop (mkF m 8 #[.val (.ref r_WORD), .val (.int 0), .val (.int 8), .val (.int 95), .val (.int 0), .val (.int 7), .unset, .unset] [])) _
    refine tnLu r_WORD (0 : Int32) (8 : Int32) (95 : Int32) (0 : Int32) (7 : Int32) (3 : Int32) k_WORD (8 : Int32) [(.int 48), (.int 57), (.int 65), (.int 90), (.int 95), (.int 95), (.int 97), (.int 122)] (.int (0 : Int32)) (90 : Int32) (4 : Int32) X0 hx hZ hby e0 (by decide) (by decide) V_r_WORD ⟨by decide, by decide⟩ rfl (by decide) (by decide) _ ?_
    show Steps p.tables e below (s₁.setTop (mkF m 8 #[.val (.ref r_WORD), .val (.int 0), .val (.int 8), .val (.int 95), .val (.int 4), .val (.int 7), .val (.int 3), .val (.int 90)] [])) _
    refine XS.iload X0.here hx rfl (hb hby d4_8) rfl ?_
    show Steps p.tables e below (s₁.setTop (mkF m 10 #[.val (.ref r_WORD), .val (.int 0), .val (.int 8), .val (.int 95), .val (.int 4), .val (.int 7), .val (.int 3), .val (.int 90)] [(.int 4)])) _
    refine XS.iload X0.here hx rfl (hb hby d4_10) rfl ?_
    show Steps p.tables e below (s₁.setTop (mkF m 12 #[.val (.ref r_WORD), .val (.int 0), .val (.int 8), .val (.int 95), .val (.int 4), .val (.int 7), .val (.int 3), .val (.int 90)] [(.int 7), (.int 4)])) _
    refine XS.icmpNo X0.here hx rfl (hb hby d4_12) rfl (flt (by decide : ¬ ((7 : Int32) < (4 : Int32)))).2.2.1 ?_
    show Steps p.tables e below (s₁.setTop (mkF m 15 #[.val (.ref r_WORD), .val (.int 0), .val (.int 8), .val (.int 95), .val (.int 4), .val (.int 7), .val (.int 3), .val (.int 90)] [])) _
    refine XS.iload X0.here hx rfl (hb hby d4_15) rfl ?_
    show Steps p.tables e below (s₁.setTop (mkF m 17 #[.val (.ref r_WORD), .val (.int 0), .val (.int 8), .val (.int 95), .val (.int 4), .val (.int 7), .val (.int 3), .val (.int 90)] [(.int 4)])) _
    refine XS.iload X0.here hx rfl (hb hby d4_17) rfl ?_
    show Steps p.tables e below (s₁.setTop (mkF m 19 #[.val (.ref r_WORD), .val (.int 0), .val (.int 8), .val (.int 95), .val (.int 4), .val (.int 7), .val (.int 3), .val (.int 90)] [(.int 7), (.int 4)])) _
    refine XS.iadd X0.here hx rfl (hb hby d4_19) rfl ?_
    show Steps p.tables e below (s₁.setTop (mkF m 20 #[.val (.ref r_WORD), .val (.int 0), .val (.int 8), .val (.int 95), .val (.int 4), .val (.int 7), .val (.int 3), .val (.int 90)] [(.int ((4 : Int32) + (7 : Int32)))])) _
    rw [(by decide : ((4 : Int32) + (7 : Int32)) = (11 : Int32))]
    show Steps p.tables e below (s₁.setTop (mkF m 20 #[.val (.ref r_WORD), .val (.int 0), .val (.int 8), .val (.int 95), .val (.int 4), .val (.int 7), .val (.int 3), .val (.int 90)] [(.int 11)])) _
    refine XS.iconst X0.here hx rfl (hb hby d4_20) ?_
    show Steps p.tables e below (s₁.setTop (mkF m 21 #[.val (.ref r_WORD), .val (.int 0), .val (.int 8), .val (.int 95), .val (.int 4), .val (.int 7), .val (.int 3), .val (.int 90)] [(.int 1), (.int 11)])) _
    refine XS.iushr X0.here hx rfl (hb hby d4_21) rfl ?_
    show Steps p.tables e below (s₁.setTop (mkF m 22 #[.val (.ref r_WORD), .val (.int 0), .val (.int 8), .val (.int 95), .val (.int 4), .val (.int 7), .val (.int 3), .val (.int 90)] [(.int (((11 : Int32).toUInt32 >>> ((1 : Int32) &&& 31).toUInt32).toInt32))])) _
    rw [(by decide : (((11 : Int32).toUInt32 >>> ((1 : Int32) &&& 31).toUInt32).toInt32) = (5 : Int32))]
    show Steps p.tables e below (s₁.setTop (mkF m 22 #[.val (.ref r_WORD), .val (.int 0), .val (.int 8), .val (.int 95), .val (.int 4), .val (.int 7), .val (.int 3), .val (.int 90)] [(.int 5)])) _
    refine XS.istore X0.here hx rfl (hb hby d4_22) rfl (l' := #[.val (.ref r_WORD), .val (.int 0), .val (.int 8), .val (.int 95), .val (.int 4), .val (.int 7), .val (.int 5), .val (.int 90)]) rfl ?_
    show Steps p.tables e below (s₁.setTop (mkF m 24 #[.val (.ref r_WORD), .val (.int 0), .val (.int 8), .val (.int 95), .val (.int 4), .val (.int 7), .val (.int 5), .val (.int 90)] [])) _
    refine XS.aloadN X0.here hx rfl (hb hby d4_24) rfl rfl ?_
    show Steps p.tables e below (s₁.setTop (mkF m 25 #[.val (.ref r_WORD), .val (.int 0), .val (.int 8), .val (.int 95), .val (.int 4), .val (.int 7), .val (.int 5), .val (.int 90)] [(.ref r_WORD)])) _
    refine XS.iload X0.here hx rfl (hb hby d4_25) rfl ?_
    show Steps p.tables e below (s₁.setTop (mkF m 27 #[.val (.ref r_WORD), .val (.int 0), .val (.int 8), .val (.int 95), .val (.int 4), .val (.int 7), .val (.int 5), .val (.int 90)] [(.int 5), (.ref r_WORD)])) _
    refine own_ldI X0 hx hZ e0 V_r_WORD (j := (5 : Int32)) ⟨by decide, by decide⟩ rfl (g := (mkF m 27 #[.val (.ref r_WORD), .val (.int 0), .val (.int 8), .val (.int 95), .val (.int 4), .val (.int 7), .val (.int 5), .val (.int 90)] [(.int 5), (.ref r_WORD)])) rfl rfl (hb hby d4_27) _ ?_
    show Steps p.tables e below (s₁.setTop (mkF m 28 #[.val (.ref r_WORD), .val (.int 0), .val (.int 8), .val (.int 95), .val (.int 4), .val (.int 7), .val (.int 5), .val (.int 90)] [(.int 95)])) _
    refine XS.istore X0.here hx rfl (hb hby d4_28) rfl (l' := #[.val (.ref r_WORD), .val (.int 0), .val (.int 8), .val (.int 95), .val (.int 4), .val (.int 7), .val (.int 5), .val (.int 95)]) rfl ?_
    show Steps p.tables e below (s₁.setTop (mkF m 30 #[.val (.ref r_WORD), .val (.int 0), .val (.int 8), .val (.int 95), .val (.int 4), .val (.int 7), .val (.int 5), .val (.int 95)] [])) _
    refine XS.iload X0.here hx rfl (hb hby d4_30) rfl ?_
    show Steps p.tables e below (s₁.setTop (mkF m 32 #[.val (.ref r_WORD), .val (.int 0), .val (.int 8), .val (.int 95), .val (.int 4), .val (.int 7), .val (.int 5), .val (.int 95)] [(.int 95)])) _
    refine XS.iloadN X0.here hx rfl (hb hby d4_32) rfl ?_
    show Steps p.tables e below (s₁.setTop (mkF m 33 #[.val (.ref r_WORD), .val (.int 0), .val (.int 8), .val (.int 95), .val (.int 4), .val (.int 7), .val (.int 5), .val (.int 95)] [(.int 95), (.int 95)])) _
    refine XS.icmpYes X0.here hx rfl (pc0 := 33) (pc' := 45) rfl (hb hby d4_33) rfl (flt (by decide : ¬ ((95 : Int32) < (95 : Int32)))).2.1 (by decide) (by decide) ?_
    show Steps p.tables e below (s₁.setTop (mkF m 45 #[.val (.ref r_WORD), .val (.int 0), .val (.int 8), .val (.int 95), .val (.int 4), .val (.int 7), .val (.int 5), .val (.int 95)] [])) _
    refine XS.iload X0.here hx rfl (hb hby d4_45) rfl ?_
    show Steps p.tables e below (s₁.setTop (mkF m 47 #[.val (.ref r_WORD), .val (.int 0), .val (.int 8), .val (.int 95), .val (.int 4), .val (.int 7), .val (.int 5), .val (.int 95)] [(.int 95)])) _
    refine XS.iloadN X0.here hx rfl (hb hby d4_47) rfl ?_
    show Steps p.tables e below (s₁.setTop (mkF m 48 #[.val (.ref r_WORD), .val (.int 0), .val (.int 8), .val (.int 95), .val (.int 4), .val (.int 7), .val (.int 5), .val (.int 95)] [(.int 95), (.int 95)])) _
    refine XS.icmpYes X0.here hx rfl (pc0 := 48) (pc' := 60) rfl (hb hby d4_48) rfl (flt (by decide : ¬ ((95 : Int32) < (95 : Int32)))).2.2.2 (by decide) (by decide) ?_
    show Steps p.tables e below (s₁.setTop (mkF m 60 #[.val (.ref r_WORD), .val (.int 0), .val (.int 8), .val (.int 95), .val (.int 4), .val (.int 7), .val (.int 5), .val (.int 95)] [])) _
    refine XS.iload X0.here hx rfl (hb hby d4_60) rfl ?_
    show Steps p.tables e below (s₁.setTop (mkF m 62 #[.val (.ref r_WORD), .val (.int 0), .val (.int 8), .val (.int 95), .val (.int 4), .val (.int 7), .val (.int 5), .val (.int 95)] [(.int 5)])) _
    exact retI X0 hx Bd.returns (hb hby d4_62) hr
  · show Q4_r_WORD_0_8_95 Z r_WORD k_WORD h0 n0 _ s₁.heap _
    rw [e0]
    exact ⟨rfl, N0, rfl⟩
def Q3_r_WORD_95 (Z : State) (r_WORD : Addr) (k_WORD : ClassId) (h0 : Heap) (n0 : Nat) (v : Option Value) (h : Heap) (L : List Loc) : Prop := v = some (.int 5) ∧ Fr n0 L ∧ h = h0
set_option maxRecDepth 65536 in
set_option maxHeartbeats 40000000 in
theorem rm3_r_WORD_95 (l : Launch) (Z : State) (a0 : Array Value) (hw : ∀ d ∈ tables_1, d.before a0 Z = true) (ws : List Jvm.Cond) (r_WORD : Addr) (k_WORD : ClassId) (h0 : Heap) (n0 : Nat) (Z0 : n0 ≤ h0.size) (V_r_WORD : Arv Z h0 r_WORD k_WORD .int (8 : Int32) [(.int 48), (.int 57), (.int 65), (.int 90), (.int 95), (.int 95), (.int 97), (.int 122)] (.int (0 : Int32))) :
    MetFree l (⟨"java/util/Arrays", "binarySearch", "([II)I"⟩ : MethodName) (head1 (Jvm.Cond.code (⟨"java/util/Arrays", "binarySearch", "([II)I"⟩ : MethodName) jdk_65_method_57_code 2 (some .int) :: ws) ({ frames := 1, cells := 0, slots := 0, locals := 19 } : Room)) (fun a U => a = #[(.ref r_WORD), (.int 95)] ∧ Z.Warmed39 U.vm ∧ U.heap = h0) (fun _ _ _ _ _ => True) (fun _ U o U' => ∃ v L, o = .returned v ∧ Q3_r_WORD_95 Z r_WORD k_WORD h0 n0 v U'.heap L ∧ FrameEnd U o U' L ({ frames := 1, cells := 0, slots := 0, locals := 19 } : Room).cells ({ frames := 1, cells := 0, slots := 0, locals := 19 } : Room).slots) := by
  refine MetFree.of_bodySF (plainFor_of_name pn_3) hisR ?_
  intro p e s m args below meth c s₁ Bd hml0 hP hK
  obtain ⟨rfl, hZ, hh⟩ := hP
  have hx := Bd.exec
  have hby := Bd.bytes
  have hml : c.maxLocals = 2 := hml0
  have hown : s.vm.findClass "java/util/Arrays" = some m.cls := findClass_of_methodNamed Bd.named
  have hnm := (name_of_methodNamed Bd.named Bd.method).1
  have X0 : Stand p l e ({ frames := 1, cells := 0, slots := 0, locals := 19 } : Room) s m #[(.ref r_WORD), (.int 95)] below meth c s₁ [] 0 0 := Stand.of_body Bd
  have e0 : s₁.heap = h0 := by rw [← hh, Bd.state]; rfl
  have N0 := Fr.nil n0
  have pre0 : ∀ t, Steps p.tables e below (s₁.setTop (mkF m 0 #[.val (.ref r_WORD), .val (.int 95)] [])) t → Steps p.tables e below (s₁.setTop (entryFrame m #[(.ref r_WORD), (.int 95)] 2)) t := fun t k => castTop (by first | (simp [entryFrame, mkF, argsToLocals, Value.category]; done) | rfl) k
  obtain ⟨_, _, ⟨T1, L1, k1, n1⟩, -, X1, ⟨Lc1, hQ1, l1, y1, z1⟩, st1⟩ := Jvm.LawKit.callS X0 hx (y := (⟨"java/util/Arrays", "binarySearch0", "([IIII)I"⟩ : MethodName)) hown (mvT hZ (hw _ (List.mem_of_getElem? (i := 19) rfl))) (mvT hZ (hw _ (List.mem_of_getElem? (i := 20) rfl))) (mvT hZ (hw _ (List.mem_of_getElem? (i := 17) rfl))) (mvT hZ (hw _ (List.mem_of_getElem? (i := 21) rfl))) (by decide) (backOf (W := 0) (rm4_r_WORD_0_8_95 l Z a0 hw [] r_WORD k_WORD h0 n0 Z0 V_r_WORD) hZ (hw _ (List.mem_of_getElem? (i := 21) rfl)) (hw _ (List.mem_of_getElem? (i := 17) rfl)) (by decide) (by decide)) (g := (mkF m 5 #[.val (.ref r_WORD), .val (.int 95)] [(.int 95), (.int 8), (.int 0), (.ref r_WORD)])) rfl (by rw [hml]; rfl) (argsL := [(.ref r_WORD), (.int 0), (.int 8), (.int 95)]) (rest := []) (lenOf pd___IIII_I rfl) rfl (by show 2 * 0 + _ ≤ _; exact Nat.le_of_eq rfl) (hb hby d3_5) (fun _ _ => ⟨rfl, e0, (by decide : 0 + 0 ≤ _), (by decide : 0 + 0 ≤ _)⟩)
  dsimp only [Pt.U, Pt.locs, Pt.cells, Pt.slots] at X1 l1 y1 z1 st1 hQ1
  subst l1 y1 z1
  obtain ⟨rfl, N1q, e1⟩ := hQ1
  have N1 := Fr.app N0 N1q
  obtain ⟨fs, hr, hrun, hended, hW, hsame⟩ := X1.leave (v := some (.int 5)) (fun h => by rw [Bd.returns] at h; cases h)
  refine ⟨_, _, pre0 _ ?_, hrun, hended, _, _, rfl, ?_, ⟨_, rfl⟩, hW, hsame.mono (by decide) (by decide)⟩
  · show Steps p.tables e below (s₁.setTop (mkF m 0 #[.val (.ref r_WORD), .val (.int 95)] [])) _
    refine XS.aloadN X0.here hx rfl (hb hby d3_0) rfl rfl ?_
    show Steps p.tables e below (s₁.setTop (mkF m 1 #[.val (.ref r_WORD), .val (.int 95)] [(.ref r_WORD)])) _
    refine XS.iconst X0.here hx rfl (hb hby d3_1) ?_
    show Steps p.tables e below (s₁.setTop (mkF m 2 #[.val (.ref r_WORD), .val (.int 95)] [(.int 0), (.ref r_WORD)])) _
    refine XS.aloadN X0.here hx rfl (hb hby d3_2) rfl rfl ?_
    show Steps p.tables e below (s₁.setTop (mkF m 3 #[.val (.ref r_WORD), .val (.int 95)] [(.ref r_WORD), (.int 0), (.ref r_WORD)])) _
    refine own_lenz X0 hx hZ e0 V_r_WORD (g := (mkF m 3 #[.val (.ref r_WORD), .val (.int 95)] [(.ref r_WORD), (.int 0), (.ref r_WORD)])) rfl rfl (hb hby d3_3) _ ?_
    show Steps p.tables e below (s₁.setTop (mkF m 4 #[.val (.ref r_WORD), .val (.int 95)] [(.int 8), (.int 0), (.ref r_WORD)])) _
    refine XS.iloadN X0.here hx rfl (hb hby d3_4) rfl ?_
    show Steps p.tables e below (s₁.setTop (mkF m 5 #[.val (.ref r_WORD), .val (.int 95)] [(.int 95), (.int 8), (.int 0), (.ref r_WORD)])) _
    refine st1 _ ?_
    show Steps p.tables e below (T1.setTop (mkF m 8 #[.val (.ref r_WORD), .val (.int 95)] [(.int 5)])) _
    exact retI X1 hx Bd.returns (hb hby d3_8) hr
  · show Q3_r_WORD_95 Z r_WORD k_WORD h0 n0 _ T1.heap _
    rw [e1]
    exact ⟨rfl, N1, rfl⟩
def Q2_w_WORD_95_all_WORD (Z : State) (w_WORD : Addr) (r_WORD : Addr) (k_WORD : ClassId) (h0 : Heap) (n0 : Nat) (v : Option Value) (h : Heap) (L : List Loc) : Prop := v = some (.int (own_w (95 : Int32))) ∧ Fr n0 L ∧ h = h0
set_option maxRecDepth 65536 in
set_option maxHeartbeats 40000000 in
theorem rm2_w_WORD_95_all_WORD (l : Launch) (Z : State) (a0 : Array Value) (hw : ∀ d ∈ tables_1, d.before a0 Z = true) (ws : List Jvm.Cond) (w_WORD : Addr) (r_WORD : Addr) (k_WORD : ClassId) (h0 : Heap) (n0 : Nat) (Z0 : n0 ≤ h0.size) (F_ranges_w_WORD : Fld Z h0 w_WORD "com/example/termwell/termwell/core/text/CodePointSet" "ranges" "[I" (.ref r_WORD)) (V_r_WORD : Arv Z h0 r_WORD k_WORD .int (8 : Int32) [(.int 48), (.int 57), (.int 65), (.int 90), (.int 95), (.int 95), (.int 97), (.int 122)] (.int (0 : Int32))) (hret : (own_w (95 : Int32)) = (1 : Int32)) :
    MetFree l (⟨"com/example/termwell/termwell/core/text/CodePointSet", "contains", "(I)Z"⟩ : MethodName) (head1 (Jvm.Cond.code (⟨"com/example/termwell/termwell/core/text/CodePointSet", "contains", "(I)Z"⟩ : MethodName) prog_19_method_4_code 3 (some .boolean) :: ws) ({ frames := 2, cells := 0, slots := 0, locals := 32 } : Room)) (fun a U => a = #[(.ref w_WORD), (.int 95)] ∧ Z.Warmed39 U.vm ∧ U.heap = h0) (fun _ _ _ _ _ => True) (fun _ U o U' => ∃ v L, o = .returned v ∧ Q2_w_WORD_95_all_WORD Z w_WORD r_WORD k_WORD h0 n0 v U'.heap L ∧ FrameEnd U o U' L ({ frames := 2, cells := 0, slots := 0, locals := 32 } : Room).cells ({ frames := 2, cells := 0, slots := 0, locals := 32 } : Room).slots) := by
  refine MetFree.of_bodySF (plainFor_of_name pn_2) hisR ?_
  intro p e s m args below meth c s₁ Bd hml0 hP hK
  obtain ⟨rfl, hZ, hh⟩ := hP
  have hx := Bd.exec
  have hby := Bd.bytes
  have hml : c.maxLocals = 3 := hml0
  have hown : s.vm.findClass "com/example/termwell/termwell/core/text/CodePointSet" = some m.cls := findClass_of_methodNamed Bd.named
  have hnm := (name_of_methodNamed Bd.named Bd.method).1
  have X0 : Stand p l e ({ frames := 2, cells := 0, slots := 0, locals := 32 } : Room) s m #[(.ref w_WORD), (.int 95)] below meth c s₁ [] 0 0 := Stand.of_body Bd
  have e0 : s₁.heap = h0 := by rw [← hh, Bd.state]; rfl
  have N0 := Fr.nil n0
  have pre0 : ∀ t, Steps p.tables e below (s₁.setTop (mkF m 0 #[.val (.ref w_WORD), .val (.int 95), .unset] [])) t → Steps p.tables e below (s₁.setTop (entryFrame m #[(.ref w_WORD), (.int 95)] 3)) t := fun t k => castTop (by first | (simp [entryFrame, mkF, argsToLocals, Value.category]; done) | rfl) k
  obtain ⟨T1, X1, e1, st1⟩ := getF X0 hx hZ hown (host := "") (Or.inl (hw _ (List.mem_of_getElem? (i := 13) rfl))) Via.refl e0 F_ranges_w_WORD (g := (mkF m 1 #[.val (.ref w_WORD), .val (.int 95), .unset] [(.ref w_WORD)])) rfl rfl (hb hby d2_1)
  obtain ⟨_, _, ⟨T2, L2, k2, n2⟩, -, X2, ⟨Lc2, hQ2, l2, y2, z2⟩, st2⟩ := Jvm.LawKit.callS X1 hx (y := (⟨"java/util/Arrays", "binarySearch", "([II)I"⟩ : MethodName)) hown (mvT hZ (hw _ (List.mem_of_getElem? (i := 15) rfl))) (mvT hZ (hw _ (List.mem_of_getElem? (i := 16) rfl))) (mvT hZ (hw _ (List.mem_of_getElem? (i := 17) rfl))) (mvT hZ (hw _ (List.mem_of_getElem? (i := 18) rfl))) (by decide) (backOf (W := 0) (rm3_r_WORD_95 l Z a0 hw [] r_WORD k_WORD h0 n0 Z0 V_r_WORD) hZ (hw _ (List.mem_of_getElem? (i := 18) rfl)) (hw _ (List.mem_of_getElem? (i := 17) rfl)) (by decide) (by decide)) (g := (mkF m 5 #[.val (.ref w_WORD), .val (.int 95), .unset] [(.int 95), (.ref r_WORD)])) rfl (by rw [hml]; rfl) (argsL := [(.ref r_WORD), (.int 95)]) (rest := []) (lenOf pd___II_I rfl) rfl (by show 2 * 0 + _ ≤ _; exact Nat.le_of_eq rfl) (hb hby d2_5) (fun _ _ => ⟨rfl, e1, (by decide : 0 + 0 ≤ _), (by decide : 0 + 0 ≤ _)⟩)
  dsimp only [Pt.U, Pt.locs, Pt.cells, Pt.slots] at X2 l2 y2 z2 st2 hQ2
  subst l2 y2 z2
  obtain ⟨rfl, N2q, e2⟩ := hQ2
  have N2 := Fr.app N0 N2q
  obtain ⟨fs, hr, hrun, hended, hW, hsame⟩ := X2.leave (v := some (.int 1)) (fun h => by rw [Bd.returns] at h; cases h)
  refine ⟨_, _, pre0 _ ?_, hrun, hended, _, _, rfl, ?_, ⟨_, rfl⟩, hW, hsame.mono (by decide) (by decide)⟩
  · show Steps p.tables e below (s₁.setTop (mkF m 0 #[.val (.ref w_WORD), .val (.int 95), .unset] [])) _
    refine XS.aloadN X0.here hx rfl (hb hby d2_0) rfl rfl ?_
    show Steps p.tables e below (s₁.setTop (mkF m 1 #[.val (.ref w_WORD), .val (.int 95), .unset] [(.ref w_WORD)])) _
    refine st1 _ ?_
    show Steps p.tables e below (T1.setTop (mkF m 4 #[.val (.ref w_WORD), .val (.int 95), .unset] [(.ref r_WORD)])) _
    refine XS.iloadN X1.here hx rfl (hb hby d2_4) rfl ?_
    show Steps p.tables e below (T1.setTop (mkF m 5 #[.val (.ref w_WORD), .val (.int 95), .unset] [(.int 95), (.ref r_WORD)])) _
    refine st2 _ ?_
    show Steps p.tables e below (T2.setTop (mkF m 8 #[.val (.ref w_WORD), .val (.int 95), .unset] [(.int 5)])) _
    refine XS.istoreN X2.here hx rfl (hb hby d2_8) rfl (l' := #[.val (.ref w_WORD), .val (.int 95), .val (.int 5)]) rfl ?_
    show Steps p.tables e below (T2.setTop (mkF m 9 #[.val (.ref w_WORD), .val (.int 95), .val (.int 5)] [])) _
    refine XS.iloadN X2.here hx rfl (hb hby d2_9) rfl ?_
    show Steps p.tables e below (T2.setTop (mkF m 10 #[.val (.ref w_WORD), .val (.int 95), .val (.int 5)] [(.int 5)])) _
    refine XS.ifYes X2.here hx rfl (pc0 := 10) (pc' := 23) rfl (hb hby d2_10) rfl ((if0 _ _).trans (flt (by decide : ¬ ((5 : Int32) < (0 : Int32)))).2.1) (by decide) (by decide) ?_
    show Steps p.tables e below (T2.setTop (mkF m 23 #[.val (.ref w_WORD), .val (.int 95), .val (.int 5)] [])) _
    refine XS.iconst X2.here hx rfl (hb hby d2_23) ?_
    show Steps p.tables e below (T2.setTop (mkF m 24 #[.val (.ref w_WORD), .val (.int 95), .val (.int 5)] [(.int 1)])) _
    refine XS.goto X2.here hx rfl (pc0 := 24) (pc' := 28) rfl (hb hby d2_24) (by decide) (by decide) ?_
    show Steps p.tables e below (T2.setTop (mkF m 28 #[.val (.ref w_WORD), .val (.int 95), .val (.int 5)] [(.int 1)])) _
    exact retN X2 hx (t := .boolean) Bd.returns (by simp) (hb hby d2_28) hr
  · show Q2_w_WORD_95_all_WORD Z w_WORD r_WORD k_WORD h0 n0 _ T2.heap _
    rw [e2]
    exact ⟨(by rw [hret]), N2, rfl⟩
def Q4_r_WORD_0_8_96 (Z : State) (r_WORD : Addr) (k_WORD : ClassId) (h0 : Heap) (n0 : Nat) (v : Option Value) (h : Heap) (L : List Loc) : Prop := v = some (.int (-7)) ∧ Fr n0 L ∧ h = h0
set_option maxRecDepth 65536 in
set_option maxHeartbeats 40000000 in
theorem rm4_r_WORD_0_8_96 (l : Launch) (Z : State) (a0 : Array Value) (hw : ∀ d ∈ tables_1, d.before a0 Z = true) (ws : List Jvm.Cond) (r_WORD : Addr) (k_WORD : ClassId) (h0 : Heap) (n0 : Nat) (Z0 : n0 ≤ h0.size) (V_r_WORD : Arv Z h0 r_WORD k_WORD .int (8 : Int32) [(.int 48), (.int 57), (.int 65), (.int 90), (.int 95), (.int 95), (.int 97), (.int 122)] (.int (0 : Int32))) :
    MetFree l (⟨"java/util/Arrays", "binarySearch0", "([IIII)I"⟩ : MethodName) (head1 (Jvm.Cond.code (⟨"java/util/Arrays", "binarySearch0", "([IIII)I"⟩ : MethodName) jdk_65_method_59_code 8 (some .int) :: ws) ({ frames := 0, cells := 0, slots := 0, locals := 0 } : Room)) (fun a U => a = #[(.ref r_WORD), (.int 0), (.int 8), (.int 96)] ∧ Z.Warmed39 U.vm ∧ U.heap = h0) (fun _ _ _ _ _ => True) (fun _ U o U' => ∃ v L, o = .returned v ∧ Q4_r_WORD_0_8_96 Z r_WORD k_WORD h0 n0 v U'.heap L ∧ FrameEnd U o U' L ({ frames := 0, cells := 0, slots := 0, locals := 0 } : Room).cells ({ frames := 0, cells := 0, slots := 0, locals := 0 } : Room).slots) := by
  refine MetFree.of_bodySF (plainFor_of_name pn_4) hisR ?_
  intro p e s m args below meth c s₁ Bd hml0 hP hK
  obtain ⟨rfl, hZ, hh⟩ := hP
  have hx := Bd.exec
  have hby := Bd.bytes
  have hml : c.maxLocals = 8 := hml0
  have hown : s.vm.findClass "java/util/Arrays" = some m.cls := findClass_of_methodNamed Bd.named
  have hnm := (name_of_methodNamed Bd.named Bd.method).1
  have X0 : Stand p l e ({ frames := 0, cells := 0, slots := 0, locals := 0 } : Room) s m #[(.ref r_WORD), (.int 0), (.int 8), (.int 96)] below meth c s₁ [] 0 0 := Stand.of_body Bd
  have e0 : s₁.heap = h0 := by rw [← hh, Bd.state]; rfl
  have N0 := Fr.nil n0
  have pre0 : ∀ t, Steps p.tables e below (s₁.setTop (mkF m 0 #[.val (.ref r_WORD), .val (.int 0), .val (.int 8), .val (.int 96), .unset, .unset, .unset, .unset] [])) t → Steps p.tables e below (s₁.setTop (entryFrame m #[(.ref r_WORD), (.int 0), (.int 8), (.int 96)] 8)) t := fun t k => castTop (by first | (simp [entryFrame, mkF, argsToLocals, Value.category]; done) | rfl) k
  obtain ⟨fs, hr, hrun, hended, hW, hsame⟩ := X0.leave (v := some (.int (-7))) (fun h => by rw [Bd.returns] at h; cases h)
  refine ⟨_, _, pre0 _ ?_, hrun, hended, _, _, rfl, ?_, ⟨_, rfl⟩, hW, hsame.mono (by decide) (by decide)⟩
  · show Steps p.tables e below (s₁.setTop (mkF m 0 #[.val (.ref r_WORD), .val (.int 0), .val (.int 8), .val (.int 96), .unset, .unset, .unset, .unset] [])) _
    refine XS.iloadN X0.here hx rfl (hb hby d4_0) rfl ?_
    show Steps p.tables e below (s₁.setTop (mkF m 1 #[.val (.ref r_WORD), .val (.int 0), .val (.int 8), .val (.int 96), .unset, .unset, .unset, .unset] [(.int 0)])) _
    refine XS.istore X0.here hx rfl (hb hby d4_1) rfl (l' := #[.val (.ref r_WORD), .val (.int 0), .val (.int 8), .val (.int 96), .val (.int 0), .unset, .unset, .unset]) rfl ?_
    show Steps p.tables e below (s₁.setTop (mkF m 3 #[.val (.ref r_WORD), .val (.int 0), .val (.int 8), .val (.int 96), .val (.int 0), .unset, .unset, .unset] [])) _
    refine XS.iloadN X0.here hx rfl (hb hby d4_3) rfl ?_
    show Steps p.tables e below (s₁.setTop (mkF m 4 #[.val (.ref r_WORD), .val (.int 0), .val (.int 8), .val (.int 96), .val (.int 0), .unset, .unset, .unset] [(.int 8)])) _
    refine XS.iconst X0.here hx rfl (hb hby d4_4) ?_
    show Steps p.tables e below (s₁.setTop (mkF m 5 #[.val (.ref r_WORD), .val (.int 0), .val (.int 8), .val (.int 96), .val (.int 0), .unset, .unset, .unset] [(.int 1), (.int 8)])) _
    refine XS.isub X0.here hx rfl (hb hby d4_5) rfl ?_
    show Steps p.tables e below (s₁.setTop (mkF m 6 #[.val (.ref r_WORD), .val (.int 0), .val (.int 8), .val (.int 96), .val (.int 0), .unset, .unset, .unset] [(.int ((8 : Int32) - (1 : Int32)))])) _
    rw [(by decide : ((8 : Int32) - (1 : Int32)) = (7 : Int32))]
    show Steps p.tables e below (s₁.setTop (mkF m 6 #[.val (.ref r_WORD), .val (.int 0), .val (.int 8), .val (.int 96), .val (.int 0), .unset, .unset, .unset] [(.int 7)])) _
    refine XS.istore X0.here hx rfl (hb hby d4_6) rfl (l' := #[.val (.ref r_WORD), .val (.int 0), .val (.int 8), .val (.int 96), .val (.int 0), .val (.int 7), .unset, .unset]) rfl ?_
    show Steps p.tables e below (s₁.setTop (mkF m 8 #[.val (.ref r_WORD), .val (.int 0), .val (.int 8), .val (.int 96), .val (.int 0), .val (.int 7), .unset, .unset] [])) _
    refine tnLu r_WORD (0 : Int32) (8 : Int32) (96 : Int32) (0 : Int32) (7 : Int32) (3 : Int32) k_WORD (8 : Int32) [(.int 48), (.int 57), (.int 65), (.int 90), (.int 95), (.int 95), (.int 97), (.int 122)] (.int (0 : Int32)) (90 : Int32) (4 : Int32) X0 hx hZ hby e0 (by decide) (by decide) V_r_WORD ⟨by decide, by decide⟩ rfl (by decide) (by decide) _ ?_
    show Steps p.tables e below (s₁.setTop (mkF m 8 #[.val (.ref r_WORD), .val (.int 0), .val (.int 8), .val (.int 96), .val (.int 4), .val (.int 7), .val (.int 3), .val (.int 90)] [])) _
    refine tnLv r_WORD (0 : Int32) (8 : Int32) (96 : Int32) (4 : Int32) (7 : Int32) (3 : Int32) (90 : Int32) (5 : Int32) k_WORD (8 : Int32) [(.int 48), (.int 57), (.int 65), (.int 90), (.int 95), (.int 95), (.int 97), (.int 122)] (.int (0 : Int32)) (95 : Int32) (6 : Int32) X0 hx hZ hby e0 (by decide) (by decide) V_r_WORD ⟨by decide, by decide⟩ rfl (by decide) (by decide) _ ?_
    show Steps p.tables e below (s₁.setTop (mkF m 8 #[.val (.ref r_WORD), .val (.int 0), .val (.int 8), .val (.int 96), .val (.int 6), .val (.int 7), .val (.int 5), .val (.int 95)] [])) _
    refine tnGv r_WORD (0 : Int32) (8 : Int32) (96 : Int32) (6 : Int32) (7 : Int32) (5 : Int32) (95 : Int32) (6 : Int32) k_WORD (8 : Int32) [(.int 48), (.int 57), (.int 65), (.int 90), (.int 95), (.int 95), (.int 97), (.int 122)] (.int (0 : Int32)) (97 : Int32) (5 : Int32) X0 hx hZ hby e0 (by decide) (by decide) V_r_WORD ⟨by decide, by decide⟩ rfl (by decide) (by decide) (by decide) _ ?_
    show Steps p.tables e below (s₁.setTop (mkF m 8 #[.val (.ref r_WORD), .val (.int 0), .val (.int 8), .val (.int 96), .val (.int 6), .val (.int 5), .val (.int 6), .val (.int 97)] [])) _
    refine XS.iload X0.here hx rfl (hb hby d4_8) rfl ?_
    show Steps p.tables e below (s₁.setTop (mkF m 10 #[.val (.ref r_WORD), .val (.int 0), .val (.int 8), .val (.int 96), .val (.int 6), .val (.int 5), .val (.int 6), .val (.int 97)] [(.int 6)])) _
    refine XS.iload X0.here hx rfl (hb hby d4_10) rfl ?_
    show Steps p.tables e below (s₁.setTop (mkF m 12 #[.val (.ref r_WORD), .val (.int 0), .val (.int 8), .val (.int 96), .val (.int 6), .val (.int 5), .val (.int 6), .val (.int 97)] [(.int 5), (.int 6)])) _
    refine XS.icmpYes X0.here hx rfl (pc0 := 12) (pc' := 66) rfl (hb hby d4_12) rfl (tlt (by decide : (5 : Int32) < (6 : Int32))).2.2.1 (by decide) (by decide) ?_
    show Steps p.tables e below (s₁.setTop (mkF m 66 #[.val (.ref r_WORD), .val (.int 0), .val (.int 8), .val (.int 96), .val (.int 6), .val (.int 5), .val (.int 6), .val (.int 97)] [])) _
    refine XS.iload X0.here hx rfl (hb hby d4_66) rfl ?_
    show Steps p.tables e below (s₁.setTop (mkF m 68 #[.val (.ref r_WORD), .val (.int 0), .val (.int 8), .val (.int 96), .val (.int 6), .val (.int 5), .val (.int 6), .val (.int 97)] [(.int 6)])) _
    refine XS.iconst X0.here hx rfl (hb hby d4_68) ?_
    show Steps p.tables e below (s₁.setTop (mkF m 69 #[.val (.ref r_WORD), .val (.int 0), .val (.int 8), .val (.int 96), .val (.int 6), .val (.int 5), .val (.int 6), .val (.int 97)] [(.int 1), (.int 6)])) _
    refine XS.iadd X0.here hx rfl (hb hby d4_69) rfl ?_
    show Steps p.tables e below (s₁.setTop (mkF m 70 #[.val (.ref r_WORD), .val (.int 0), .val (.int 8), .val (.int 96), .val (.int 6), .val (.int 5), .val (.int 6), .val (.int 97)] [(.int ((6 : Int32) + (1 : Int32)))])) _
    rw [(by decide : ((6 : Int32) + (1 : Int32)) = (7 : Int32))]
    show Steps p.tables e below (s₁.setTop (mkF m 70 #[.val (.ref r_WORD), .val (.int 0), .val (.int 8), .val (.int 96), .val (.int 6), .val (.int 5), .val (.int 6), .val (.int 97)] [(.int 7)])) _
    refine XS.ineg X0.here hx rfl (hb hby d4_70) rfl ?_
    show Steps p.tables e below (s₁.setTop (mkF m 71 #[.val (.ref r_WORD), .val (.int 0), .val (.int 8), .val (.int 96), .val (.int 6), .val (.int 5), .val (.int 6), .val (.int 97)] [(.int (-(7 : Int32)))])) _
    rw [(by decide : (-(7 : Int32)) = (-7 : Int32))]
    show Steps p.tables e below (s₁.setTop (mkF m 71 #[.val (.ref r_WORD), .val (.int 0), .val (.int 8), .val (.int 96), .val (.int 6), .val (.int 5), .val (.int 6), .val (.int 97)] [(.int (-7))])) _
    exact retI X0 hx Bd.returns (hb hby d4_71) hr
  · show Q4_r_WORD_0_8_96 Z r_WORD k_WORD h0 n0 _ s₁.heap _
    rw [e0]
    exact ⟨rfl, N0, rfl⟩
def Q3_r_WORD_96 (Z : State) (r_WORD : Addr) (k_WORD : ClassId) (h0 : Heap) (n0 : Nat) (v : Option Value) (h : Heap) (L : List Loc) : Prop := v = some (.int (-7)) ∧ Fr n0 L ∧ h = h0
set_option maxRecDepth 65536 in
set_option maxHeartbeats 40000000 in
theorem rm3_r_WORD_96 (l : Launch) (Z : State) (a0 : Array Value) (hw : ∀ d ∈ tables_1, d.before a0 Z = true) (ws : List Jvm.Cond) (r_WORD : Addr) (k_WORD : ClassId) (h0 : Heap) (n0 : Nat) (Z0 : n0 ≤ h0.size) (V_r_WORD : Arv Z h0 r_WORD k_WORD .int (8 : Int32) [(.int 48), (.int 57), (.int 65), (.int 90), (.int 95), (.int 95), (.int 97), (.int 122)] (.int (0 : Int32))) :
    MetFree l (⟨"java/util/Arrays", "binarySearch", "([II)I"⟩ : MethodName) (head1 (Jvm.Cond.code (⟨"java/util/Arrays", "binarySearch", "([II)I"⟩ : MethodName) jdk_65_method_57_code 2 (some .int) :: ws) ({ frames := 1, cells := 0, slots := 0, locals := 19 } : Room)) (fun a U => a = #[(.ref r_WORD), (.int 96)] ∧ Z.Warmed39 U.vm ∧ U.heap = h0) (fun _ _ _ _ _ => True) (fun _ U o U' => ∃ v L, o = .returned v ∧ Q3_r_WORD_96 Z r_WORD k_WORD h0 n0 v U'.heap L ∧ FrameEnd U o U' L ({ frames := 1, cells := 0, slots := 0, locals := 19 } : Room).cells ({ frames := 1, cells := 0, slots := 0, locals := 19 } : Room).slots) := by
  refine MetFree.of_bodySF (plainFor_of_name pn_3) hisR ?_
  intro p e s m args below meth c s₁ Bd hml0 hP hK
  obtain ⟨rfl, hZ, hh⟩ := hP
  have hx := Bd.exec
  have hby := Bd.bytes
  have hml : c.maxLocals = 2 := hml0
  have hown : s.vm.findClass "java/util/Arrays" = some m.cls := findClass_of_methodNamed Bd.named
  have hnm := (name_of_methodNamed Bd.named Bd.method).1
  have X0 : Stand p l e ({ frames := 1, cells := 0, slots := 0, locals := 19 } : Room) s m #[(.ref r_WORD), (.int 96)] below meth c s₁ [] 0 0 := Stand.of_body Bd
  have e0 : s₁.heap = h0 := by rw [← hh, Bd.state]; rfl
  have N0 := Fr.nil n0
  have pre0 : ∀ t, Steps p.tables e below (s₁.setTop (mkF m 0 #[.val (.ref r_WORD), .val (.int 96)] [])) t → Steps p.tables e below (s₁.setTop (entryFrame m #[(.ref r_WORD), (.int 96)] 2)) t := fun t k => castTop (by first | (simp [entryFrame, mkF, argsToLocals, Value.category]; done) | rfl) k
  obtain ⟨_, _, ⟨T1, L1, k1, n1⟩, -, X1, ⟨Lc1, hQ1, l1, y1, z1⟩, st1⟩ := Jvm.LawKit.callS X0 hx (y := (⟨"java/util/Arrays", "binarySearch0", "([IIII)I"⟩ : MethodName)) hown (mvT hZ (hw _ (List.mem_of_getElem? (i := 19) rfl))) (mvT hZ (hw _ (List.mem_of_getElem? (i := 20) rfl))) (mvT hZ (hw _ (List.mem_of_getElem? (i := 17) rfl))) (mvT hZ (hw _ (List.mem_of_getElem? (i := 21) rfl))) (by decide) (backOf (W := 0) (rm4_r_WORD_0_8_96 l Z a0 hw [] r_WORD k_WORD h0 n0 Z0 V_r_WORD) hZ (hw _ (List.mem_of_getElem? (i := 21) rfl)) (hw _ (List.mem_of_getElem? (i := 17) rfl)) (by decide) (by decide)) (g := (mkF m 5 #[.val (.ref r_WORD), .val (.int 96)] [(.int 96), (.int 8), (.int 0), (.ref r_WORD)])) rfl (by rw [hml]; rfl) (argsL := [(.ref r_WORD), (.int 0), (.int 8), (.int 96)]) (rest := []) (lenOf pd___IIII_I rfl) rfl (by show 2 * 0 + _ ≤ _; exact Nat.le_of_eq rfl) (hb hby d3_5) (fun _ _ => ⟨rfl, e0, (by decide : 0 + 0 ≤ _), (by decide : 0 + 0 ≤ _)⟩)
  dsimp only [Pt.U, Pt.locs, Pt.cells, Pt.slots] at X1 l1 y1 z1 st1 hQ1
  subst l1 y1 z1
  obtain ⟨rfl, N1q, e1⟩ := hQ1
  have N1 := Fr.app N0 N1q
  obtain ⟨fs, hr, hrun, hended, hW, hsame⟩ := X1.leave (v := some (.int (-7))) (fun h => by rw [Bd.returns] at h; cases h)
  refine ⟨_, _, pre0 _ ?_, hrun, hended, _, _, rfl, ?_, ⟨_, rfl⟩, hW, hsame.mono (by decide) (by decide)⟩
  · show Steps p.tables e below (s₁.setTop (mkF m 0 #[.val (.ref r_WORD), .val (.int 96)] [])) _
    refine XS.aloadN X0.here hx rfl (hb hby d3_0) rfl rfl ?_
    show Steps p.tables e below (s₁.setTop (mkF m 1 #[.val (.ref r_WORD), .val (.int 96)] [(.ref r_WORD)])) _
    refine XS.iconst X0.here hx rfl (hb hby d3_1) ?_
    show Steps p.tables e below (s₁.setTop (mkF m 2 #[.val (.ref r_WORD), .val (.int 96)] [(.int 0), (.ref r_WORD)])) _
    refine XS.aloadN X0.here hx rfl (hb hby d3_2) rfl rfl ?_
    show Steps p.tables e below (s₁.setTop (mkF m 3 #[.val (.ref r_WORD), .val (.int 96)] [(.ref r_WORD), (.int 0), (.ref r_WORD)])) _
    refine own_lenz X0 hx hZ e0 V_r_WORD (g := (mkF m 3 #[.val (.ref r_WORD), .val (.int 96)] [(.ref r_WORD), (.int 0), (.ref r_WORD)])) rfl rfl (hb hby d3_3) _ ?_
    show Steps p.tables e below (s₁.setTop (mkF m 4 #[.val (.ref r_WORD), .val (.int 96)] [(.int 8), (.int 0), (.ref r_WORD)])) _
    refine XS.iloadN X0.here hx rfl (hb hby d3_4) rfl ?_
    show Steps p.tables e below (s₁.setTop (mkF m 5 #[.val (.ref r_WORD), .val (.int 96)] [(.int 96), (.int 8), (.int 0), (.ref r_WORD)])) _
    refine st1 _ ?_
    show Steps p.tables e below (T1.setTop (mkF m 8 #[.val (.ref r_WORD), .val (.int 96)] [(.int (-7))])) _
    exact retI X1 hx Bd.returns (hb hby d3_8) hr
  · show Q3_r_WORD_96 Z r_WORD k_WORD h0 n0 _ T1.heap _
    rw [e1]
    exact ⟨rfl, N1, rfl⟩
def Q2_w_WORD_96_all_WORD (Z : State) (w_WORD : Addr) (r_WORD : Addr) (k_WORD : ClassId) (h0 : Heap) (n0 : Nat) (v : Option Value) (h : Heap) (L : List Loc) : Prop := v = some (.int (own_w (96 : Int32))) ∧ Fr n0 L ∧ h = h0
set_option maxRecDepth 65536 in
set_option maxHeartbeats 40000000 in
theorem rm2_w_WORD_96_all_WORD (l : Launch) (Z : State) (a0 : Array Value) (hw : ∀ d ∈ tables_1, d.before a0 Z = true) (ws : List Jvm.Cond) (w_WORD : Addr) (r_WORD : Addr) (k_WORD : ClassId) (h0 : Heap) (n0 : Nat) (Z0 : n0 ≤ h0.size) (F_ranges_w_WORD : Fld Z h0 w_WORD "com/example/termwell/termwell/core/text/CodePointSet" "ranges" "[I" (.ref r_WORD)) (V_r_WORD : Arv Z h0 r_WORD k_WORD .int (8 : Int32) [(.int 48), (.int 57), (.int 65), (.int 90), (.int 95), (.int 95), (.int 97), (.int 122)] (.int (0 : Int32))) (hret : (own_w (96 : Int32)) = (0 : Int32)) :
    MetFree l (⟨"com/example/termwell/termwell/core/text/CodePointSet", "contains", "(I)Z"⟩ : MethodName) (head1 (Jvm.Cond.code (⟨"com/example/termwell/termwell/core/text/CodePointSet", "contains", "(I)Z"⟩ : MethodName) prog_19_method_4_code 3 (some .boolean) :: ws) ({ frames := 2, cells := 0, slots := 0, locals := 32 } : Room)) (fun a U => a = #[(.ref w_WORD), (.int 96)] ∧ Z.Warmed39 U.vm ∧ U.heap = h0) (fun _ _ _ _ _ => True) (fun _ U o U' => ∃ v L, o = .returned v ∧ Q2_w_WORD_96_all_WORD Z w_WORD r_WORD k_WORD h0 n0 v U'.heap L ∧ FrameEnd U o U' L ({ frames := 2, cells := 0, slots := 0, locals := 32 } : Room).cells ({ frames := 2, cells := 0, slots := 0, locals := 32 } : Room).slots) := by
  refine MetFree.of_bodySF (plainFor_of_name pn_2) hisR ?_
  intro p e s m args below meth c s₁ Bd hml0 hP hK
  obtain ⟨rfl, hZ, hh⟩ := hP
  have hx := Bd.exec
  have hby := Bd.bytes
  have hml : c.maxLocals = 3 := hml0
  have hown : s.vm.findClass "com/example/termwell/termwell/core/text/CodePointSet" = some m.cls := findClass_of_methodNamed Bd.named
  have hnm := (name_of_methodNamed Bd.named Bd.method).1
  have X0 : Stand p l e ({ frames := 2, cells := 0, slots := 0, locals := 32 } : Room) s m #[(.ref w_WORD), (.int 96)] below meth c s₁ [] 0 0 := Stand.of_body Bd
  have e0 : s₁.heap = h0 := by rw [← hh, Bd.state]; rfl
  have N0 := Fr.nil n0
  have pre0 : ∀ t, Steps p.tables e below (s₁.setTop (mkF m 0 #[.val (.ref w_WORD), .val (.int 96), .unset] [])) t → Steps p.tables e below (s₁.setTop (entryFrame m #[(.ref w_WORD), (.int 96)] 3)) t := fun t k => castTop (by first | (simp [entryFrame, mkF, argsToLocals, Value.category]; done) | rfl) k
  obtain ⟨T1, X1, e1, st1⟩ := getF X0 hx hZ hown (host := "") (Or.inl (hw _ (List.mem_of_getElem? (i := 13) rfl))) Via.refl e0 F_ranges_w_WORD (g := (mkF m 1 #[.val (.ref w_WORD), .val (.int 96), .unset] [(.ref w_WORD)])) rfl rfl (hb hby d2_1)
  obtain ⟨_, _, ⟨T2, L2, k2, n2⟩, -, X2, ⟨Lc2, hQ2, l2, y2, z2⟩, st2⟩ := Jvm.LawKit.callS X1 hx (y := (⟨"java/util/Arrays", "binarySearch", "([II)I"⟩ : MethodName)) hown (mvT hZ (hw _ (List.mem_of_getElem? (i := 15) rfl))) (mvT hZ (hw _ (List.mem_of_getElem? (i := 16) rfl))) (mvT hZ (hw _ (List.mem_of_getElem? (i := 17) rfl))) (mvT hZ (hw _ (List.mem_of_getElem? (i := 18) rfl))) (by decide) (backOf (W := 0) (rm3_r_WORD_96 l Z a0 hw [] r_WORD k_WORD h0 n0 Z0 V_r_WORD) hZ (hw _ (List.mem_of_getElem? (i := 18) rfl)) (hw _ (List.mem_of_getElem? (i := 17) rfl)) (by decide) (by decide)) (g := (mkF m 5 #[.val (.ref w_WORD), .val (.int 96), .unset] [(.int 96), (.ref r_WORD)])) rfl (by rw [hml]; rfl) (argsL := [(.ref r_WORD), (.int 96)]) (rest := []) (lenOf pd___II_I rfl) rfl (by show 2 * 0 + _ ≤ _; exact Nat.le_of_eq rfl) (hb hby d2_5) (fun _ _ => ⟨rfl, e1, (by decide : 0 + 0 ≤ _), (by decide : 0 + 0 ≤ _)⟩)
  dsimp only [Pt.U, Pt.locs, Pt.cells, Pt.slots] at X2 l2 y2 z2 st2 hQ2
  subst l2 y2 z2
  obtain ⟨rfl, N2q, e2⟩ := hQ2
  have N2 := Fr.app N0 N2q
  obtain ⟨fs, hr, hrun, hended, hW, hsame⟩ := X2.leave (v := some (.int 0)) (fun h => by rw [Bd.returns] at h; cases h)
  refine ⟨_, _, pre0 _ ?_, hrun, hended, _, _, rfl, ?_, ⟨_, rfl⟩, hW, hsame.mono (by decide) (by decide)⟩
  · show Steps p.tables e below (s₁.setTop (mkF m 0 #[.val (.ref w_WORD), .val (.int 96), .unset] [])) _
    refine XS.aloadN X0.here hx rfl (hb hby d2_0) rfl rfl ?_
    show Steps p.tables e below (s₁.setTop (mkF m 1 #[.val (.ref w_WORD), .val (.int 96), .unset] [(.ref w_WORD)])) _
    refine st1 _ ?_
    show Steps p.tables e below (T1.setTop (mkF m 4 #[.val (.ref w_WORD), .val (.int 96), .unset] [(.ref r_WORD)])) _
    refine XS.iloadN X1.here hx rfl (hb hby d2_4) rfl ?_
    show Steps p.tables e below (T1.setTop (mkF m 5 #[.val (.ref w_WORD), .val (.int 96), .unset] [(.int 96), (.ref r_WORD)])) _
    refine st2 _ ?_
    show Steps p.tables e below (T2.setTop (mkF m 8 #[.val (.ref w_WORD), .val (.int 96), .unset] [(.int (-7))])) _
    refine XS.istoreN X2.here hx rfl (hb hby d2_8) rfl (l' := #[.val (.ref w_WORD), .val (.int 96), .val (.int (-7))]) rfl ?_
    show Steps p.tables e below (T2.setTop (mkF m 9 #[.val (.ref w_WORD), .val (.int 96), .val (.int (-7))] [])) _
    refine XS.iloadN X2.here hx rfl (hb hby d2_9) rfl ?_
    show Steps p.tables e below (T2.setTop (mkF m 10 #[.val (.ref w_WORD), .val (.int 96), .val (.int (-7))] [(.int (-7))])) _
    refine XS.ifNo X2.here hx rfl (hb hby d2_10) rfl ((if0 _ _).trans (tlt (by decide : (-7 : Int32) < (0 : Int32))).2.1) ?_
    show Steps p.tables e below (T2.setTop (mkF m 13 #[.val (.ref w_WORD), .val (.int 96), .val (.int (-7))] [])) _
    refine XS.iloadN X2.here hx rfl (hb hby d2_13) rfl ?_
    show Steps p.tables e below (T2.setTop (mkF m 14 #[.val (.ref w_WORD), .val (.int 96), .val (.int (-7))] [(.int (-7))])) _
    refine XS.ineg X2.here hx rfl (hb hby d2_14) rfl ?_
    show Steps p.tables e below (T2.setTop (mkF m 15 #[.val (.ref w_WORD), .val (.int 96), .val (.int (-7))] [(.int (-(-7 : Int32)))])) _
    rw [(by decide : (-(-7 : Int32)) = (7 : Int32))]
    show Steps p.tables e below (T2.setTop (mkF m 15 #[.val (.ref w_WORD), .val (.int 96), .val (.int (-7))] [(.int 7)])) _
    refine XS.iconst X2.here hx rfl (hb hby d2_15) ?_
    show Steps p.tables e below (T2.setTop (mkF m 16 #[.val (.ref w_WORD), .val (.int 96), .val (.int (-7))] [(.int 1), (.int 7)])) _
    refine XS.isub X2.here hx rfl (hb hby d2_16) rfl ?_
    show Steps p.tables e below (T2.setTop (mkF m 17 #[.val (.ref w_WORD), .val (.int 96), .val (.int (-7))] [(.int ((7 : Int32) - (1 : Int32)))])) _
    rw [(by decide : ((7 : Int32) - (1 : Int32)) = (6 : Int32))]
    show Steps p.tables e below (T2.setTop (mkF m 17 #[.val (.ref w_WORD), .val (.int 96), .val (.int (-7))] [(.int 6)])) _
    refine XS.iconst X2.here hx rfl (hb hby d2_17) ?_
    show Steps p.tables e below (T2.setTop (mkF m 18 #[.val (.ref w_WORD), .val (.int 96), .val (.int (-7))] [(.int 2), (.int 6)])) _
    refine iremM X2 hx rfl (hb hby d2_18) rfl (by decide) ?_
    show Steps p.tables e below (T2.setTop (mkF m 19 #[.val (.ref w_WORD), .val (.int 96), .val (.int (-7))] [(.int ((6 : Int32) % (2 : Int32)))])) _
    rw [(by decide : ((6 : Int32) % (2 : Int32)) = (0 : Int32))]
    show Steps p.tables e below (T2.setTop (mkF m 19 #[.val (.ref w_WORD), .val (.int 96), .val (.int (-7))] [(.int 0)])) _
    refine XS.iconst X2.here hx rfl (hb hby d2_19) ?_
    show Steps p.tables e below (T2.setTop (mkF m 20 #[.val (.ref w_WORD), .val (.int 96), .val (.int (-7))] [(.int 1), (.int 0)])) _
    refine XS.icmpYes X2.here hx rfl (pc0 := 20) (pc' := 27) rfl (hb hby d2_20) rfl (feq (by decide : ¬ ((0 : Int32) = (1 : Int32)))).2 (by decide) (by decide) ?_
    show Steps p.tables e below (T2.setTop (mkF m 27 #[.val (.ref w_WORD), .val (.int 96), .val (.int (-7))] [])) _
    refine XS.iconst X2.here hx rfl (hb hby d2_27) ?_
    show Steps p.tables e below (T2.setTop (mkF m 28 #[.val (.ref w_WORD), .val (.int 96), .val (.int (-7))] [(.int 0)])) _
    exact retN X2 hx (t := .boolean) Bd.returns (by simp) (hb hby d2_28) hr
  · show Q2_w_WORD_96_all_WORD Z w_WORD r_WORD k_WORD h0 n0 _ T2.heap _
    rw [e2]
    exact ⟨(by rw [hret]), N2, rfl⟩
def Q4_r_WORD_0_8_97 (Z : State) (r_WORD : Addr) (k_WORD : ClassId) (h0 : Heap) (n0 : Nat) (v : Option Value) (h : Heap) (L : List Loc) : Prop := v = some (.int 6) ∧ Fr n0 L ∧ h = h0
set_option maxRecDepth 65536 in
set_option maxHeartbeats 40000000 in
theorem rm4_r_WORD_0_8_97 (l : Launch) (Z : State) (a0 : Array Value) (hw : ∀ d ∈ tables_1, d.before a0 Z = true) (ws : List Jvm.Cond) (r_WORD : Addr) (k_WORD : ClassId) (h0 : Heap) (n0 : Nat) (Z0 : n0 ≤ h0.size) (V_r_WORD : Arv Z h0 r_WORD k_WORD .int (8 : Int32) [(.int 48), (.int 57), (.int 65), (.int 90), (.int 95), (.int 95), (.int 97), (.int 122)] (.int (0 : Int32))) :
    MetFree l (⟨"java/util/Arrays", "binarySearch0", "([IIII)I"⟩ : MethodName) (head1 (Jvm.Cond.code (⟨"java/util/Arrays", "binarySearch0", "([IIII)I"⟩ : MethodName) jdk_65_method_59_code 8 (some .int) :: ws) ({ frames := 0, cells := 0, slots := 0, locals := 0 } : Room)) (fun a U => a = #[(.ref r_WORD), (.int 0), (.int 8), (.int 97)] ∧ Z.Warmed39 U.vm ∧ U.heap = h0) (fun _ _ _ _ _ => True) (fun _ U o U' => ∃ v L, o = .returned v ∧ Q4_r_WORD_0_8_97 Z r_WORD k_WORD h0 n0 v U'.heap L ∧ FrameEnd U o U' L ({ frames := 0, cells := 0, slots := 0, locals := 0 } : Room).cells ({ frames := 0, cells := 0, slots := 0, locals := 0 } : Room).slots) := by
  refine MetFree.of_bodySF (plainFor_of_name pn_4) hisR ?_
  intro p e s m args below meth c s₁ Bd hml0 hP hK
  obtain ⟨rfl, hZ, hh⟩ := hP
  have hx := Bd.exec
  have hby := Bd.bytes
  have hml : c.maxLocals = 8 := hml0
  have hown : s.vm.findClass "java/util/Arrays" = some m.cls := findClass_of_methodNamed Bd.named
  have hnm := (name_of_methodNamed Bd.named Bd.method).1
  have X0 : Stand p l e ({ frames := 0, cells := 0, slots := 0, locals := 0 } : Room) s m #[(.ref r_WORD), (.int 0), (.int 8), (.int 97)] below meth c s₁ [] 0 0 := Stand.of_body Bd
  have e0 : s₁.heap = h0 := by rw [← hh, Bd.state]; rfl
  have N0 := Fr.nil n0
  have pre0 : ∀ t, Steps p.tables e below (s₁.setTop (mkF m 0 #[.val (.ref r_WORD), .val (.int 0), .val (.int 8), .val (.int 97), .unset, .unset, .unset, .unset] [])) t → Steps p.tables e below (s₁.setTop (entryFrame m #[(.ref r_WORD), (.int 0), (.int 8), (.int 97)] 8)) t := fun t k => castTop (by first | (simp [entryFrame, mkF, argsToLocals, Value.category]; done) | rfl) k
  obtain ⟨fs, hr, hrun, hended, hW, hsame⟩ := X0.leave (v := some (.int 6)) (fun h => by rw [Bd.returns] at h; cases h)
  refine ⟨_, _, pre0 _ ?_, hrun, hended, _, _, rfl, ?_, ⟨_, rfl⟩, hW, hsame.mono (by decide) (by decide)⟩
  · show Steps p.tables e below (s₁.setTop (mkF m 0 #[.val (.ref r_WORD), .val (.int 0), .val (.int 8), .val (.int 97), .unset, .unset, .unset, .unset] [])) _
    refine XS.iloadN X0.here hx rfl (hb hby d4_0) rfl ?_
    show Steps p.tables e below (s₁.setTop (mkF m 1 #[.val (.ref r_WORD), .val (.int 0), .val (.int 8), .val (.int 97), .unset, .unset, .unset, .unset] [(.int 0)])) _
    refine XS.istore X0.here hx rfl (hb hby d4_1) rfl (l' := #[.val (.ref r_WORD), .val (.int 0), .val (.int 8), .val (.int 97), .val (.int 0), .unset, .unset, .unset]) rfl ?_
    show Steps p.tables e below (s₁.setTop (mkF m 3 #[.val (.ref r_WORD), .val (.int 0), .val (.int 8), .val (.int 97), .val (.int 0), .unset, .unset, .unset] [])) _
    refine XS.iloadN X0.here hx rfl (hb hby d4_3) rfl ?_
    show Steps p.tables e below (s₁.setTop (mkF m 4 #[.val (.ref r_WORD), .val (.int 0), .val (.int 8), .val (.int 97), .val (.int 0), .unset, .unset, .unset] [(.int 8)])) _
    refine XS.iconst X0.here hx rfl (hb hby d4_4) ?_
    show Steps p.tables e below (s₁.setTop (mkF m 5 #[.val (.ref r_WORD), .val (.int 0), .val (.int 8), .val (.int 97), .val (.int 0), .unset, .unset, .unset] [(.int 1), (.int 8)])) _
    refine XS.isub X0.here hx rfl (hb hby d4_5) rfl ?_
    show Steps p.tables e below (s₁.setTop (mkF m 6 #[.val (.ref r_WORD), .val (.int 0), .val (.int 8), .val (.int 97), .val (.int 0), .unset, .unset, .unset] [(.int ((8 : Int32) - (1 : Int32)))])) _
    rw [(by decide : ((8 : Int32) - (1 : Int32)) = (7 : Int32))]
    show Steps p.tables e below (s₁.setTop (mkF m 6 #[.val (.ref r_WORD), .val (.int 0), .val (.int 8), .val (.int 97), .val (.int 0), .unset, .unset, .unset] [(.int 7)])) _
    refine XS.istore X0.here hx rfl (hb hby d4_6) rfl (l' := #[.val (.ref r_WORD), .val (.int 0), .val (.int 8), .val (.int 97), .val (.int 0), .val (.int 7), .unset, .unset]) rfl ?_
    show Steps p.tables e below (s₁.setTop (mkF m 8 #[.val (.ref r_WORD), .val (.int 0), .val (.int 8), .val (.int 97), .val (.int 0), .val (.int 7), .unset, .unset] [])) _
    refine tnLu r_WORD (0 : Int32) (8 : Int32) (97 : Int32) (0 : Int32) (7 : Int32) (3 : Int32) k_WORD (8 : Int32) [(.int 48), (.int 57), (.int 65), (.int 90), (.int 95), (.int 95), (.int 97), (.int 122)] (.int (0 : Int32)) (90 : Int32) (4 : Int32) X0 hx hZ hby e0 (by decide) (by decide) V_r_WORD ⟨by decide, by decide⟩ rfl (by decide) (by decide) _ ?_
    show Steps p.tables e below (s₁.setTop (mkF m 8 #[.val (.ref r_WORD), .val (.int 0), .val (.int 8), .val (.int 97), .val (.int 4), .val (.int 7), .val (.int 3), .val (.int 90)] [])) _
    refine tnLv r_WORD (0 : Int32) (8 : Int32) (97 : Int32) (4 : Int32) (7 : Int32) (3 : Int32) (90 : Int32) (5 : Int32) k_WORD (8 : Int32) [(.int 48), (.int 57), (.int 65), (.int 90), (.int 95), (.int 95), (.int 97), (.int 122)] (.int (0 : Int32)) (95 : Int32) (6 : Int32) X0 hx hZ hby e0 (by decide) (by decide) V_r_WORD ⟨by decide, by decide⟩ rfl (by decide) (by decide) _ ?_
    show Steps p.tables e below (s₁.setTop (mkF m 8 #[.val (.ref r_WORD), .val (.int 0), .val (.int 8), .val (.int 97), .val (.int 6), .val (.int 7), .val (.int 5), .val (.int 95)] [])) _
    refine XS.iload X0.here hx rfl (hb hby d4_8) rfl ?_
    show Steps p.tables e below (s₁.setTop (mkF m 10 #[.val (.ref r_WORD), .val (.int 0), .val (.int 8), .val (.int 97), .val (.int 6), .val (.int 7), .val (.int 5), .val (.int 95)] [(.int 6)])) _
    refine XS.iload X0.here hx rfl (hb hby d4_10) rfl ?_
    show Steps p.tables e below (s₁.setTop (mkF m 12 #[.val (.ref r_WORD), .val (.int 0), .val (.int 8), .val (.int 97), .val (.int 6), .val (.int 7), .val (.int 5), .val (.int 95)] [(.int 7), (.int 6)])) _
    refine XS.icmpNo X0.here hx rfl (hb hby d4_12) rfl (flt (by decide : ¬ ((7 : Int32) < (6 : Int32)))).2.2.1 ?_
    show Steps p.tables e below (s₁.setTop (mkF m 15 #[.val (.ref r_WORD), .val (.int 0), .val (.int 8), .val (.int 97), .val (.int 6), .val (.int 7), .val (.int 5), .val (.int 95)] [])) _
    refine XS.iload X0.here hx rfl (hb hby d4_15) rfl ?_
    show Steps p.tables e below (s₁.setTop (mkF m 17 #[.val (.ref r_WORD), .val (.int 0), .val (.int 8), .val (.int 97), .val (.int 6), .val (.int 7), .val (.int 5), .val (.int 95)] [(.int 6)])) _
    refine XS.iload X0.here hx rfl (hb hby d4_17) rfl ?_
    show Steps p.tables e below (s₁.setTop (mkF m 19 #[.val (.ref r_WORD), .val (.int 0), .val (.int 8), .val (.int 97), .val (.int 6), .val (.int 7), .val (.int 5), .val (.int 95)] [(.int 7), (.int 6)])) _
    refine XS.iadd X0.here hx rfl (hb hby d4_19) rfl ?_
    show Steps p.tables e below (s₁.setTop (mkF m 20 #[.val (.ref r_WORD), .val (.int 0), .val (.int 8), .val (.int 97), .val (.int 6), .val (.int 7), .val (.int 5), .val (.int 95)] [(.int ((6 : Int32) + (7 : Int32)))])) _
    rw [(by decide : ((6 : Int32) + (7 : Int32)) = (13 : Int32))]
    show Steps p.tables e below (s₁.setTop (mkF m 20 #[.val (.ref r_WORD), .val (.int 0), .val (.int 8), .val (.int 97), .val (.int 6), .val (.int 7), .val (.int 5), .val (.int 95)] [(.int 13)])) _
    refine XS.iconst X0.here hx rfl (hb hby d4_20) ?_
    show Steps p.tables e below (s₁.setTop (mkF m 21 #[.val (.ref r_WORD), .val (.int 0), .val (.int 8), .val (.int 97), .val (.int 6), .val (.int 7), .val (.int 5), .val (.int 95)] [(.int 1), (.int 13)])) _
    refine XS.iushr X0.here hx rfl (hb hby d4_21) rfl ?_
    show Steps p.tables e below (s₁.setTop (mkF m 22 #[.val (.ref r_WORD), .val (.int 0), .val (.int 8), .val (.int 97), .val (.int 6), .val (.int 7), .val (.int 5), .val (.int 95)] [(.int (((13 : Int32).toUInt32 >>> ((1 : Int32) &&& 31).toUInt32).toInt32))])) _
    rw [(by decide : (((13 : Int32).toUInt32 >>> ((1 : Int32) &&& 31).toUInt32).toInt32) = (6 : Int32))]
    show Steps p.tables e below (s₁.setTop (mkF m 22 #[.val (.ref r_WORD), .val (.int 0), .val (.int 8), .val (.int 97), .val (.int 6), .val (.int 7), .val (.int 5), .val (.int 95)] [(.int 6)])) _
    refine XS.istore X0.here hx rfl (hb hby d4_22) rfl (l' := #[.val (.ref r_WORD), .val (.int 0), .val (.int 8), .val (.int 97), .val (.int 6), .val (.int 7), .val (.int 6), .val (.int 95)]) rfl ?_
    show Steps p.tables e below (s₁.setTop (mkF m 24 #[.val (.ref r_WORD), .val (.int 0), .val (.int 8), .val (.int 97), .val (.int 6), .val (.int 7), .val (.int 6), .val (.int 95)] [])) _
    refine XS.aloadN X0.here hx rfl (hb hby d4_24) rfl rfl ?_
    show Steps p.tables e below (s₁.setTop (mkF m 25 #[.val (.ref r_WORD), .val (.int 0), .val (.int 8), .val (.int 97), .val (.int 6), .val (.int 7), .val (.int 6), .val (.int 95)] [(.ref r_WORD)])) _
    refine XS.iload X0.here hx rfl (hb hby d4_25) rfl ?_
    show Steps p.tables e below (s₁.setTop (mkF m 27 #[.val (.ref r_WORD), .val (.int 0), .val (.int 8), .val (.int 97), .val (.int 6), .val (.int 7), .val (.int 6), .val (.int 95)] [(.int 6), (.ref r_WORD)])) _
    refine own_ldI X0 hx hZ e0 V_r_WORD (j := (6 : Int32)) ⟨by decide, by decide⟩ rfl (g := (mkF m 27 #[.val (.ref r_WORD), .val (.int 0), .val (.int 8), .val (.int 97), .val (.int 6), .val (.int 7), .val (.int 6), .val (.int 95)] [(.int 6), (.ref r_WORD)])) rfl rfl (hb hby d4_27) _ ?_
    show Steps p.tables e below (s₁.setTop (mkF m 28 #[.val (.ref r_WORD), .val (.int 0), .val (.int 8), .val (.int 97), .val (.int 6), .val (.int 7), .val (.int 6), .val (.int 95)] [(.int 97)])) _
    refine XS.istore X0.here hx rfl (hb hby d4_28) rfl (l' := #[.val (.ref r_WORD), .val (.int 0), .val (.int 8), .val (.int 97), .val (.int 6), .val (.int 7), .val (.int 6), .val (.int 97)]) rfl ?_
    show Steps p.tables e below (s₁.setTop (mkF m 30 #[.val (.ref r_WORD), .val (.int 0), .val (.int 8), .val (.int 97), .val (.int 6), .val (.int 7), .val (.int 6), .val (.int 97)] [])) _
    refine XS.iload X0.here hx rfl (hb hby d4_30) rfl ?_
    show Steps p.tables e below (s₁.setTop (mkF m 32 #[.val (.ref r_WORD), .val (.int 0), .val (.int 8), .val (.int 97), .val (.int 6), .val (.int 7), .val (.int 6), .val (.int 97)] [(.int 97)])) _
    refine XS.iloadN X0.here hx rfl (hb hby d4_32) rfl ?_
    show Steps p.tables e below (s₁.setTop (mkF m 33 #[.val (.ref r_WORD), .val (.int 0), .val (.int 8), .val (.int 97), .val (.int 6), .val (.int 7), .val (.int 6), .val (.int 97)] [(.int 97), (.int 97)])) _
    refine XS.icmpYes X0.here hx rfl (pc0 := 33) (pc' := 45) rfl (hb hby d4_33) rfl (flt (by decide : ¬ ((97 : Int32) < (97 : Int32)))).2.1 (by decide) (by decide) ?_
    show Steps p.tables e below (s₁.setTop (mkF m 45 #[.val (.ref r_WORD), .val (.int 0), .val (.int 8), .val (.int 97), .val (.int 6), .val (.int 7), .val (.int 6), .val (.int 97)] [])) _
    refine XS.iload X0.here hx rfl (hb hby d4_45) rfl ?_
    show Steps p.tables e below (s₁.setTop (mkF m 47 #[.val (.ref r_WORD), .val (.int 0), .val (.int 8), .val (.int 97), .val (.int 6), .val (.int 7), .val (.int 6), .val (.int 97)] [(.int 97)])) _
    refine XS.iloadN X0.here hx rfl (hb hby d4_47) rfl ?_
    show Steps p.tables e below (s₁.setTop (mkF m 48 #[.val (.ref r_WORD), .val (.int 0), .val (.int 8), .val (.int 97), .val (.int 6), .val (.int 7), .val (.int 6), .val (.int 97)] [(.int 97), (.int 97)])) _
    refine XS.icmpYes X0.here hx rfl (pc0 := 48) (pc' := 60) rfl (hb hby d4_48) rfl (flt (by decide : ¬ ((97 : Int32) < (97 : Int32)))).2.2.2 (by decide) (by decide) ?_
    show Steps p.tables e below (s₁.setTop (mkF m 60 #[.val (.ref r_WORD), .val (.int 0), .val (.int 8), .val (.int 97), .val (.int 6), .val (.int 7), .val (.int 6), .val (.int 97)] [])) _
    refine XS.iload X0.here hx rfl (hb hby d4_60) rfl ?_
    show Steps p.tables e below (s₁.setTop (mkF m 62 #[.val (.ref r_WORD), .val (.int 0), .val (.int 8), .val (.int 97), .val (.int 6), .val (.int 7), .val (.int 6), .val (.int 97)] [(.int 6)])) _
    exact retI X0 hx Bd.returns (hb hby d4_62) hr
  · show Q4_r_WORD_0_8_97 Z r_WORD k_WORD h0 n0 _ s₁.heap _
    rw [e0]
    exact ⟨rfl, N0, rfl⟩
def Q3_r_WORD_97 (Z : State) (r_WORD : Addr) (k_WORD : ClassId) (h0 : Heap) (n0 : Nat) (v : Option Value) (h : Heap) (L : List Loc) : Prop := v = some (.int 6) ∧ Fr n0 L ∧ h = h0
set_option maxRecDepth 65536 in
set_option maxHeartbeats 40000000 in
theorem rm3_r_WORD_97 (l : Launch) (Z : State) (a0 : Array Value) (hw : ∀ d ∈ tables_1, d.before a0 Z = true) (ws : List Jvm.Cond) (r_WORD : Addr) (k_WORD : ClassId) (h0 : Heap) (n0 : Nat) (Z0 : n0 ≤ h0.size) (V_r_WORD : Arv Z h0 r_WORD k_WORD .int (8 : Int32) [(.int 48), (.int 57), (.int 65), (.int 90), (.int 95), (.int 95), (.int 97), (.int 122)] (.int (0 : Int32))) :
    MetFree l (⟨"java/util/Arrays", "binarySearch", "([II)I"⟩ : MethodName) (head1 (Jvm.Cond.code (⟨"java/util/Arrays", "binarySearch", "([II)I"⟩ : MethodName) jdk_65_method_57_code 2 (some .int) :: ws) ({ frames := 1, cells := 0, slots := 0, locals := 19 } : Room)) (fun a U => a = #[(.ref r_WORD), (.int 97)] ∧ Z.Warmed39 U.vm ∧ U.heap = h0) (fun _ _ _ _ _ => True) (fun _ U o U' => ∃ v L, o = .returned v ∧ Q3_r_WORD_97 Z r_WORD k_WORD h0 n0 v U'.heap L ∧ FrameEnd U o U' L ({ frames := 1, cells := 0, slots := 0, locals := 19 } : Room).cells ({ frames := 1, cells := 0, slots := 0, locals := 19 } : Room).slots) := by
  refine MetFree.of_bodySF (plainFor_of_name pn_3) hisR ?_
  intro p e s m args below meth c s₁ Bd hml0 hP hK
  obtain ⟨rfl, hZ, hh⟩ := hP
  have hx := Bd.exec
  have hby := Bd.bytes
  have hml : c.maxLocals = 2 := hml0
  have hown : s.vm.findClass "java/util/Arrays" = some m.cls := findClass_of_methodNamed Bd.named
  have hnm := (name_of_methodNamed Bd.named Bd.method).1
  have X0 : Stand p l e ({ frames := 1, cells := 0, slots := 0, locals := 19 } : Room) s m #[(.ref r_WORD), (.int 97)] below meth c s₁ [] 0 0 := Stand.of_body Bd
  have e0 : s₁.heap = h0 := by rw [← hh, Bd.state]; rfl
  have N0 := Fr.nil n0
  have pre0 : ∀ t, Steps p.tables e below (s₁.setTop (mkF m 0 #[.val (.ref r_WORD), .val (.int 97)] [])) t → Steps p.tables e below (s₁.setTop (entryFrame m #[(.ref r_WORD), (.int 97)] 2)) t := fun t k => castTop (by first | (simp [entryFrame, mkF, argsToLocals, Value.category]; done) | rfl) k
  obtain ⟨_, _, ⟨T1, L1, k1, n1⟩, -, X1, ⟨Lc1, hQ1, l1, y1, z1⟩, st1⟩ := Jvm.LawKit.callS X0 hx (y := (⟨"java/util/Arrays", "binarySearch0", "([IIII)I"⟩ : MethodName)) hown (mvT hZ (hw _ (List.mem_of_getElem? (i := 19) rfl))) (mvT hZ (hw _ (List.mem_of_getElem? (i := 20) rfl))) (mvT hZ (hw _ (List.mem_of_getElem? (i := 17) rfl))) (mvT hZ (hw _ (List.mem_of_getElem? (i := 21) rfl))) (by decide) (backOf (W := 0) (rm4_r_WORD_0_8_97 l Z a0 hw [] r_WORD k_WORD h0 n0 Z0 V_r_WORD) hZ (hw _ (List.mem_of_getElem? (i := 21) rfl)) (hw _ (List.mem_of_getElem? (i := 17) rfl)) (by decide) (by decide)) (g := (mkF m 5 #[.val (.ref r_WORD), .val (.int 97)] [(.int 97), (.int 8), (.int 0), (.ref r_WORD)])) rfl (by rw [hml]; rfl) (argsL := [(.ref r_WORD), (.int 0), (.int 8), (.int 97)]) (rest := []) (lenOf pd___IIII_I rfl) rfl (by show 2 * 0 + _ ≤ _; exact Nat.le_of_eq rfl) (hb hby d3_5) (fun _ _ => ⟨rfl, e0, (by decide : 0 + 0 ≤ _), (by decide : 0 + 0 ≤ _)⟩)
  dsimp only [Pt.U, Pt.locs, Pt.cells, Pt.slots] at X1 l1 y1 z1 st1 hQ1
  subst l1 y1 z1
  obtain ⟨rfl, N1q, e1⟩ := hQ1
  have N1 := Fr.app N0 N1q
  obtain ⟨fs, hr, hrun, hended, hW, hsame⟩ := X1.leave (v := some (.int 6)) (fun h => by rw [Bd.returns] at h; cases h)
  refine ⟨_, _, pre0 _ ?_, hrun, hended, _, _, rfl, ?_, ⟨_, rfl⟩, hW, hsame.mono (by decide) (by decide)⟩
  · show Steps p.tables e below (s₁.setTop (mkF m 0 #[.val (.ref r_WORD), .val (.int 97)] [])) _
    refine XS.aloadN X0.here hx rfl (hb hby d3_0) rfl rfl ?_
    show Steps p.tables e below (s₁.setTop (mkF m 1 #[.val (.ref r_WORD), .val (.int 97)] [(.ref r_WORD)])) _
    refine XS.iconst X0.here hx rfl (hb hby d3_1) ?_
    show Steps p.tables e below (s₁.setTop (mkF m 2 #[.val (.ref r_WORD), .val (.int 97)] [(.int 0), (.ref r_WORD)])) _
    refine XS.aloadN X0.here hx rfl (hb hby d3_2) rfl rfl ?_
    show Steps p.tables e below (s₁.setTop (mkF m 3 #[.val (.ref r_WORD), .val (.int 97)] [(.ref r_WORD), (.int 0), (.ref r_WORD)])) _
    refine own_lenz X0 hx hZ e0 V_r_WORD (g := (mkF m 3 #[.val (.ref r_WORD), .val (.int 97)] [(.ref r_WORD), (.int 0), (.ref r_WORD)])) rfl rfl (hb hby d3_3) _ ?_
    show Steps p.tables e below (s₁.setTop (mkF m 4 #[.val (.ref r_WORD), .val (.int 97)] [(.int 8), (.int 0), (.ref r_WORD)])) _
    refine XS.iloadN X0.here hx rfl (hb hby d3_4) rfl ?_
    show Steps p.tables e below (s₁.setTop (mkF m 5 #[.val (.ref r_WORD), .val (.int 97)] [(.int 97), (.int 8), (.int 0), (.ref r_WORD)])) _
    refine st1 _ ?_
    show Steps p.tables e below (T1.setTop (mkF m 8 #[.val (.ref r_WORD), .val (.int 97)] [(.int 6)])) _
    exact retI X1 hx Bd.returns (hb hby d3_8) hr
  · show Q3_r_WORD_97 Z r_WORD k_WORD h0 n0 _ T1.heap _
    rw [e1]
    exact ⟨rfl, N1, rfl⟩
def Q2_w_WORD_97_all_WORD (Z : State) (w_WORD : Addr) (r_WORD : Addr) (k_WORD : ClassId) (h0 : Heap) (n0 : Nat) (v : Option Value) (h : Heap) (L : List Loc) : Prop := v = some (.int (own_w (97 : Int32))) ∧ Fr n0 L ∧ h = h0
set_option maxRecDepth 65536 in
set_option maxHeartbeats 40000000 in
theorem rm2_w_WORD_97_all_WORD (l : Launch) (Z : State) (a0 : Array Value) (hw : ∀ d ∈ tables_1, d.before a0 Z = true) (ws : List Jvm.Cond) (w_WORD : Addr) (r_WORD : Addr) (k_WORD : ClassId) (h0 : Heap) (n0 : Nat) (Z0 : n0 ≤ h0.size) (F_ranges_w_WORD : Fld Z h0 w_WORD "com/example/termwell/termwell/core/text/CodePointSet" "ranges" "[I" (.ref r_WORD)) (V_r_WORD : Arv Z h0 r_WORD k_WORD .int (8 : Int32) [(.int 48), (.int 57), (.int 65), (.int 90), (.int 95), (.int 95), (.int 97), (.int 122)] (.int (0 : Int32))) (hret : (own_w (97 : Int32)) = (1 : Int32)) :
    MetFree l (⟨"com/example/termwell/termwell/core/text/CodePointSet", "contains", "(I)Z"⟩ : MethodName) (head1 (Jvm.Cond.code (⟨"com/example/termwell/termwell/core/text/CodePointSet", "contains", "(I)Z"⟩ : MethodName) prog_19_method_4_code 3 (some .boolean) :: ws) ({ frames := 2, cells := 0, slots := 0, locals := 32 } : Room)) (fun a U => a = #[(.ref w_WORD), (.int 97)] ∧ Z.Warmed39 U.vm ∧ U.heap = h0) (fun _ _ _ _ _ => True) (fun _ U o U' => ∃ v L, o = .returned v ∧ Q2_w_WORD_97_all_WORD Z w_WORD r_WORD k_WORD h0 n0 v U'.heap L ∧ FrameEnd U o U' L ({ frames := 2, cells := 0, slots := 0, locals := 32 } : Room).cells ({ frames := 2, cells := 0, slots := 0, locals := 32 } : Room).slots) := by
  refine MetFree.of_bodySF (plainFor_of_name pn_2) hisR ?_
  intro p e s m args below meth c s₁ Bd hml0 hP hK
  obtain ⟨rfl, hZ, hh⟩ := hP
  have hx := Bd.exec
  have hby := Bd.bytes
  have hml : c.maxLocals = 3 := hml0
  have hown : s.vm.findClass "com/example/termwell/termwell/core/text/CodePointSet" = some m.cls := findClass_of_methodNamed Bd.named
  have hnm := (name_of_methodNamed Bd.named Bd.method).1
  have X0 : Stand p l e ({ frames := 2, cells := 0, slots := 0, locals := 32 } : Room) s m #[(.ref w_WORD), (.int 97)] below meth c s₁ [] 0 0 := Stand.of_body Bd
  have e0 : s₁.heap = h0 := by rw [← hh, Bd.state]; rfl
  have N0 := Fr.nil n0
  have pre0 : ∀ t, Steps p.tables e below (s₁.setTop (mkF m 0 #[.val (.ref w_WORD), .val (.int 97), .unset] [])) t → Steps p.tables e below (s₁.setTop (entryFrame m #[(.ref w_WORD), (.int 97)] 3)) t := fun t k => castTop (by first | (simp [entryFrame, mkF, argsToLocals, Value.category]; done) | rfl) k
  obtain ⟨T1, X1, e1, st1⟩ := getF X0 hx hZ hown (host := "") (Or.inl (hw _ (List.mem_of_getElem? (i := 13) rfl))) Via.refl e0 F_ranges_w_WORD (g := (mkF m 1 #[.val (.ref w_WORD), .val (.int 97), .unset] [(.ref w_WORD)])) rfl rfl (hb hby d2_1)
  obtain ⟨_, _, ⟨T2, L2, k2, n2⟩, -, X2, ⟨Lc2, hQ2, l2, y2, z2⟩, st2⟩ := Jvm.LawKit.callS X1 hx (y := (⟨"java/util/Arrays", "binarySearch", "([II)I"⟩ : MethodName)) hown (mvT hZ (hw _ (List.mem_of_getElem? (i := 15) rfl))) (mvT hZ (hw _ (List.mem_of_getElem? (i := 16) rfl))) (mvT hZ (hw _ (List.mem_of_getElem? (i := 17) rfl))) (mvT hZ (hw _ (List.mem_of_getElem? (i := 18) rfl))) (by decide) (backOf (W := 0) (rm3_r_WORD_97 l Z a0 hw [] r_WORD k_WORD h0 n0 Z0 V_r_WORD) hZ (hw _ (List.mem_of_getElem? (i := 18) rfl)) (hw _ (List.mem_of_getElem? (i := 17) rfl)) (by decide) (by decide)) (g := (mkF m 5 #[.val (.ref w_WORD), .val (.int 97), .unset] [(.int 97), (.ref r_WORD)])) rfl (by rw [hml]; rfl) (argsL := [(.ref r_WORD), (.int 97)]) (rest := []) (lenOf pd___II_I rfl) rfl (by show 2 * 0 + _ ≤ _; exact Nat.le_of_eq rfl) (hb hby d2_5) (fun _ _ => ⟨rfl, e1, (by decide : 0 + 0 ≤ _), (by decide : 0 + 0 ≤ _)⟩)
  dsimp only [Pt.U, Pt.locs, Pt.cells, Pt.slots] at X2 l2 y2 z2 st2 hQ2
  subst l2 y2 z2
  obtain ⟨rfl, N2q, e2⟩ := hQ2
  have N2 := Fr.app N0 N2q
  obtain ⟨fs, hr, hrun, hended, hW, hsame⟩ := X2.leave (v := some (.int 1)) (fun h => by rw [Bd.returns] at h; cases h)
  refine ⟨_, _, pre0 _ ?_, hrun, hended, _, _, rfl, ?_, ⟨_, rfl⟩, hW, hsame.mono (by decide) (by decide)⟩
  · show Steps p.tables e below (s₁.setTop (mkF m 0 #[.val (.ref w_WORD), .val (.int 97), .unset] [])) _
    refine XS.aloadN X0.here hx rfl (hb hby d2_0) rfl rfl ?_
    show Steps p.tables e below (s₁.setTop (mkF m 1 #[.val (.ref w_WORD), .val (.int 97), .unset] [(.ref w_WORD)])) _
    refine st1 _ ?_
    show Steps p.tables e below (T1.setTop (mkF m 4 #[.val (.ref w_WORD), .val (.int 97), .unset] [(.ref r_WORD)])) _
    refine XS.iloadN X1.here hx rfl (hb hby d2_4) rfl ?_
    show Steps p.tables e below (T1.setTop (mkF m 5 #[.val (.ref w_WORD), .val (.int 97), .unset] [(.int 97), (.ref r_WORD)])) _
    refine st2 _ ?_
    show Steps p.tables e below (T2.setTop (mkF m 8 #[.val (.ref w_WORD), .val (.int 97), .unset] [(.int 6)])) _
    refine XS.istoreN X2.here hx rfl (hb hby d2_8) rfl (l' := #[.val (.ref w_WORD), .val (.int 97), .val (.int 6)]) rfl ?_
    show Steps p.tables e below (T2.setTop (mkF m 9 #[.val (.ref w_WORD), .val (.int 97), .val (.int 6)] [])) _
    refine XS.iloadN X2.here hx rfl (hb hby d2_9) rfl ?_
    show Steps p.tables e below (T2.setTop (mkF m 10 #[.val (.ref w_WORD), .val (.int 97), .val (.int 6)] [(.int 6)])) _
    refine XS.ifYes X2.here hx rfl (pc0 := 10) (pc' := 23) rfl (hb hby d2_10) rfl ((if0 _ _).trans (flt (by decide : ¬ ((6 : Int32) < (0 : Int32)))).2.1) (by decide) (by decide) ?_
    show Steps p.tables e below (T2.setTop (mkF m 23 #[.val (.ref w_WORD), .val (.int 97), .val (.int 6)] [])) _
    refine XS.iconst X2.here hx rfl (hb hby d2_23) ?_
    show Steps p.tables e below (T2.setTop (mkF m 24 #[.val (.ref w_WORD), .val (.int 97), .val (.int 6)] [(.int 1)])) _
    refine XS.goto X2.here hx rfl (pc0 := 24) (pc' := 28) rfl (hb hby d2_24) (by decide) (by decide) ?_
    show Steps p.tables e below (T2.setTop (mkF m 28 #[.val (.ref w_WORD), .val (.int 97), .val (.int 6)] [(.int 1)])) _
    exact retN X2 hx (t := .boolean) Bd.returns (by simp) (hb hby d2_28) hr
  · show Q2_w_WORD_97_all_WORD Z w_WORD r_WORD k_WORD h0 n0 _ T2.heap _
    rw [e2]
    exact ⟨(by rw [hret]), N2, rfl⟩
def Q4_r_WORD_0_8_x_97_122 (Z : State) (r_WORD : Addr) (x : Int32) (k_WORD : ClassId) (h0 : Heap) (n0 : Nat) (v : Option Value) (h : Heap) (L : List Loc) : Prop := v = some (.int (-8)) ∧ Fr n0 L ∧ h = h0
set_option maxRecDepth 65536 in
set_option maxHeartbeats 40000000 in
theorem rm4_r_WORD_0_8_x_97_122 (l : Launch) (Z : State) (a0 : Array Value) (hw : ∀ d ∈ tables_1, d.before a0 Z = true) (ws : List Jvm.Cond) (r_WORD : Addr) (x : Int32) (k_WORD : ClassId) (h0 : Heap) (n0 : Nat) (Z0 : n0 ≤ h0.size) (hlo_x : (97 : Int32) < x) (V_r_WORD : Arv Z h0 r_WORD k_WORD .int (8 : Int32) [(.int 48), (.int 57), (.int 65), (.int 90), (.int 95), (.int 95), (.int 97), (.int 122)] (.int (0 : Int32))) (hhi_x : x < (122 : Int32)) :
    MetFree l (⟨"java/util/Arrays", "binarySearch0", "([IIII)I"⟩ : MethodName) (head1 (Jvm.Cond.code (⟨"java/util/Arrays", "binarySearch0", "([IIII)I"⟩ : MethodName) jdk_65_method_59_code 8 (some .int) :: ws) ({ frames := 0, cells := 0, slots := 0, locals := 0 } : Room)) (fun a U => a = #[(.ref r_WORD), (.int 0), (.int 8), (.int x)] ∧ Z.Warmed39 U.vm ∧ U.heap = h0) (fun _ _ _ _ _ => True) (fun _ U o U' => ∃ v L, o = .returned v ∧ Q4_r_WORD_0_8_x_97_122 Z r_WORD x k_WORD h0 n0 v U'.heap L ∧ FrameEnd U o U' L ({ frames := 0, cells := 0, slots := 0, locals := 0 } : Room).cells ({ frames := 0, cells := 0, slots := 0, locals := 0 } : Room).slots) := by
  refine MetFree.of_bodySF (plainFor_of_name pn_4) hisR ?_
  intro p e s m args below meth c s₁ Bd hml0 hP hK
  obtain ⟨rfl, hZ, hh⟩ := hP
  have hx := Bd.exec
  have hby := Bd.bytes
  have hml : c.maxLocals = 8 := hml0
  have hown : s.vm.findClass "java/util/Arrays" = some m.cls := findClass_of_methodNamed Bd.named
  have hnm := (name_of_methodNamed Bd.named Bd.method).1
  have X0 : Stand p l e ({ frames := 0, cells := 0, slots := 0, locals := 0 } : Room) s m #[(.ref r_WORD), (.int 0), (.int 8), (.int x)] below meth c s₁ [] 0 0 := Stand.of_body Bd
  have e0 : s₁.heap = h0 := by rw [← hh, Bd.state]; rfl
  have N0 := Fr.nil n0
  have pre0 : ∀ t, Steps p.tables e below (s₁.setTop (mkF m 0 #[.val (.ref r_WORD), .val (.int 0), .val (.int 8), .val (.int x), .unset, .unset, .unset, .unset] [])) t → Steps p.tables e below (s₁.setTop (entryFrame m #[(.ref r_WORD), (.int 0), (.int 8), (.int x)] 8)) t := fun t k => castTop (by first | (simp [entryFrame, mkF, argsToLocals, Value.category]; done) | rfl) k
  obtain ⟨fs, hr, hrun, hended, hW, hsame⟩ := X0.leave (v := some (.int (-8))) (fun h => by rw [Bd.returns] at h; cases h)
  refine ⟨_, _, pre0 _ ?_, hrun, hended, _, _, rfl, ?_, ⟨_, rfl⟩, hW, hsame.mono (by decide) (by decide)⟩
  · show Steps p.tables e below (s₁.setTop (mkF m 0 #[.val (.ref r_WORD), .val (.int 0), .val (.int 8), .val (.int x), .unset, .unset, .unset, .unset] [])) _
    refine XS.iloadN X0.here hx rfl (hb hby d4_0) rfl ?_
    show Steps p.tables e below (s₁.setTop (mkF m 1 #[.val (.ref r_WORD), .val (.int 0), .val (.int 8), .val (.int x), .unset, .unset, .unset, .unset] [(.int 0)])) _
    refine XS.istore X0.here hx rfl (hb hby d4_1) rfl (l' := #[.val (.ref r_WORD), .val (.int 0), .val (.int 8), .val (.int x), .val (.int 0), .unset, .unset, .unset]) rfl ?_
    show Steps p.tables e below (s₁.setTop (mkF m 3 #[.val (.ref r_WORD), .val (.int 0), .val (.int 8), .val (.int x), .val (.int 0), .unset, .unset, .unset] [])) _
    refine XS.iloadN X0.here hx rfl (hb hby d4_3) rfl ?_
    show Steps p.tables e below (s₁.setTop (mkF m 4 #[.val (.ref r_WORD), .val (.int 0), .val (.int 8), .val (.int x), .val (.int 0), .unset, .unset, .unset] [(.int 8)])) _
    refine XS.iconst X0.here hx rfl (hb hby d4_4) ?_
    show Steps p.tables e below (s₁.setTop (mkF m 5 #[.val (.ref r_WORD), .val (.int 0), .val (.int 8), .val (.int x), .val (.int 0), .unset, .unset, .unset] [(.int 1), (.int 8)])) _
    refine XS.isub X0.here hx rfl (hb hby d4_5) rfl ?_
    show Steps p.tables e below (s₁.setTop (mkF m 6 #[.val (.ref r_WORD), .val (.int 0), .val (.int 8), .val (.int x), .val (.int 0), .unset, .unset, .unset] [(.int ((8 : Int32) - (1 : Int32)))])) _
    rw [(by decide : ((8 : Int32) - (1 : Int32)) = (7 : Int32))]
    show Steps p.tables e below (s₁.setTop (mkF m 6 #[.val (.ref r_WORD), .val (.int 0), .val (.int 8), .val (.int x), .val (.int 0), .unset, .unset, .unset] [(.int 7)])) _
    refine XS.istore X0.here hx rfl (hb hby d4_6) rfl (l' := #[.val (.ref r_WORD), .val (.int 0), .val (.int 8), .val (.int x), .val (.int 0), .val (.int 7), .unset, .unset]) rfl ?_
    show Steps p.tables e below (s₁.setTop (mkF m 8 #[.val (.ref r_WORD), .val (.int 0), .val (.int 8), .val (.int x), .val (.int 0), .val (.int 7), .unset, .unset] [])) _
    refine tnLu r_WORD (0 : Int32) (8 : Int32) x (0 : Int32) (7 : Int32) (3 : Int32) k_WORD (8 : Int32) [(.int 48), (.int 57), (.int 65), (.int 90), (.int 95), (.int 95), (.int 97), (.int 122)] (.int (0 : Int32)) (90 : Int32) (4 : Int32) X0 hx hZ hby e0 (by decide) (by decide) V_r_WORD ⟨by decide, by decide⟩ rfl (own_gt hlo_x (by decide)) (by decide) _ ?_
    show Steps p.tables e below (s₁.setTop (mkF m 8 #[.val (.ref r_WORD), .val (.int 0), .val (.int 8), .val (.int x), .val (.int 4), .val (.int 7), .val (.int 3), .val (.int 90)] [])) _
    refine tnLv r_WORD (0 : Int32) (8 : Int32) x (4 : Int32) (7 : Int32) (3 : Int32) (90 : Int32) (5 : Int32) k_WORD (8 : Int32) [(.int 48), (.int 57), (.int 65), (.int 90), (.int 95), (.int 95), (.int 97), (.int 122)] (.int (0 : Int32)) (95 : Int32) (6 : Int32) X0 hx hZ hby e0 (by decide) (by decide) V_r_WORD ⟨by decide, by decide⟩ rfl (own_gt hlo_x (by decide)) (by decide) _ ?_
    show Steps p.tables e below (s₁.setTop (mkF m 8 #[.val (.ref r_WORD), .val (.int 0), .val (.int 8), .val (.int x), .val (.int 6), .val (.int 7), .val (.int 5), .val (.int 95)] [])) _
    refine tnLv r_WORD (0 : Int32) (8 : Int32) x (6 : Int32) (7 : Int32) (5 : Int32) (95 : Int32) (6 : Int32) k_WORD (8 : Int32) [(.int 48), (.int 57), (.int 65), (.int 90), (.int 95), (.int 95), (.int 97), (.int 122)] (.int (0 : Int32)) (97 : Int32) (7 : Int32) X0 hx hZ hby e0 (by decide) (by decide) V_r_WORD ⟨by decide, by decide⟩ rfl (own_gt hlo_x (by decide)) (by decide) _ ?_
    show Steps p.tables e below (s₁.setTop (mkF m 8 #[.val (.ref r_WORD), .val (.int 0), .val (.int 8), .val (.int x), .val (.int 7), .val (.int 7), .val (.int 6), .val (.int 97)] [])) _
    refine tnGv r_WORD (0 : Int32) (8 : Int32) x (7 : Int32) (7 : Int32) (6 : Int32) (97 : Int32) (7 : Int32) k_WORD (8 : Int32) [(.int 48), (.int 57), (.int 65), (.int 90), (.int 95), (.int 95), (.int 97), (.int 122)] (.int (0 : Int32)) (122 : Int32) (6 : Int32) X0 hx hZ hby e0 (by decide) (by decide) V_r_WORD ⟨by decide, by decide⟩ rfl (own_ngt hhi_x (by decide)) (own_lt hhi_x (by decide)) (by decide) _ ?_
    show Steps p.tables e below (s₁.setTop (mkF m 8 #[.val (.ref r_WORD), .val (.int 0), .val (.int 8), .val (.int x), .val (.int 7), .val (.int 6), .val (.int 7), .val (.int 122)] [])) _
    refine XS.iload X0.here hx rfl (hb hby d4_8) rfl ?_
    show Steps p.tables e below (s₁.setTop (mkF m 10 #[.val (.ref r_WORD), .val (.int 0), .val (.int 8), .val (.int x), .val (.int 7), .val (.int 6), .val (.int 7), .val (.int 122)] [(.int 7)])) _
    refine XS.iload X0.here hx rfl (hb hby d4_10) rfl ?_
    show Steps p.tables e below (s₁.setTop (mkF m 12 #[.val (.ref r_WORD), .val (.int 0), .val (.int 8), .val (.int x), .val (.int 7), .val (.int 6), .val (.int 7), .val (.int 122)] [(.int 6), (.int 7)])) _
    refine XS.icmpYes X0.here hx rfl (pc0 := 12) (pc' := 66) rfl (hb hby d4_12) rfl (tlt (by decide : (6 : Int32) < (7 : Int32))).2.2.1 (by decide) (by decide) ?_
    show Steps p.tables e below (s₁.setTop (mkF m 66 #[.val (.ref r_WORD), .val (.int 0), .val (.int 8), .val (.int x), .val (.int 7), .val (.int 6), .val (.int 7), .val (.int 122)] [])) _
    refine XS.iload X0.here hx rfl (hb hby d4_66) rfl ?_
    show Steps p.tables e below (s₁.setTop (mkF m 68 #[.val (.ref r_WORD), .val (.int 0), .val (.int 8), .val (.int x), .val (.int 7), .val (.int 6), .val (.int 7), .val (.int 122)] [(.int 7)])) _
    refine XS.iconst X0.here hx rfl (hb hby d4_68) ?_
    show Steps p.tables e below (s₁.setTop (mkF m 69 #[.val (.ref r_WORD), .val (.int 0), .val (.int 8), .val (.int x), .val (.int 7), .val (.int 6), .val (.int 7), .val (.int 122)] [(.int 1), (.int 7)])) _
    refine XS.iadd X0.here hx rfl (hb hby d4_69) rfl ?_
    show Steps p.tables e below (s₁.setTop (mkF m 70 #[.val (.ref r_WORD), .val (.int 0), .val (.int 8), .val (.int x), .val (.int 7), .val (.int 6), .val (.int 7), .val (.int 122)] [(.int ((7 : Int32) + (1 : Int32)))])) _
    rw [(by decide : ((7 : Int32) + (1 : Int32)) = (8 : Int32))]
    show Steps p.tables e below (s₁.setTop (mkF m 70 #[.val (.ref r_WORD), .val (.int 0), .val (.int 8), .val (.int x), .val (.int 7), .val (.int 6), .val (.int 7), .val (.int 122)] [(.int 8)])) _
    refine XS.ineg X0.here hx rfl (hb hby d4_70) rfl ?_
    show Steps p.tables e below (s₁.setTop (mkF m 71 #[.val (.ref r_WORD), .val (.int 0), .val (.int 8), .val (.int x), .val (.int 7), .val (.int 6), .val (.int 7), .val (.int 122)] [(.int (-(8 : Int32)))])) _
    rw [(by decide : (-(8 : Int32)) = (-8 : Int32))]
    show Steps p.tables e below (s₁.setTop (mkF m 71 #[.val (.ref r_WORD), .val (.int 0), .val (.int 8), .val (.int x), .val (.int 7), .val (.int 6), .val (.int 7), .val (.int 122)] [(.int (-8))])) _
    exact retI X0 hx Bd.returns (hb hby d4_71) hr
  · show Q4_r_WORD_0_8_x_97_122 Z r_WORD x k_WORD h0 n0 _ s₁.heap _
    rw [e0]
    exact ⟨rfl, N0, rfl⟩
def Q3_r_WORD_x_97_122 (Z : State) (r_WORD : Addr) (x : Int32) (k_WORD : ClassId) (h0 : Heap) (n0 : Nat) (v : Option Value) (h : Heap) (L : List Loc) : Prop := v = some (.int (-8)) ∧ Fr n0 L ∧ h = h0
set_option maxRecDepth 65536 in
set_option maxHeartbeats 40000000 in
theorem rm3_r_WORD_x_97_122 (l : Launch) (Z : State) (a0 : Array Value) (hw : ∀ d ∈ tables_1, d.before a0 Z = true) (ws : List Jvm.Cond) (r_WORD : Addr) (x : Int32) (k_WORD : ClassId) (h0 : Heap) (n0 : Nat) (Z0 : n0 ≤ h0.size) (V_r_WORD : Arv Z h0 r_WORD k_WORD .int (8 : Int32) [(.int 48), (.int 57), (.int 65), (.int 90), (.int 95), (.int 95), (.int 97), (.int 122)] (.int (0 : Int32))) (hlo_x : (97 : Int32) < x) (hhi_x : x < (122 : Int32)) :
    MetFree l (⟨"java/util/Arrays", "binarySearch", "([II)I"⟩ : MethodName) (head1 (Jvm.Cond.code (⟨"java/util/Arrays", "binarySearch", "([II)I"⟩ : MethodName) jdk_65_method_57_code 2 (some .int) :: ws) ({ frames := 1, cells := 0, slots := 0, locals := 19 } : Room)) (fun a U => a = #[(.ref r_WORD), (.int x)] ∧ Z.Warmed39 U.vm ∧ U.heap = h0) (fun _ _ _ _ _ => True) (fun _ U o U' => ∃ v L, o = .returned v ∧ Q3_r_WORD_x_97_122 Z r_WORD x k_WORD h0 n0 v U'.heap L ∧ FrameEnd U o U' L ({ frames := 1, cells := 0, slots := 0, locals := 19 } : Room).cells ({ frames := 1, cells := 0, slots := 0, locals := 19 } : Room).slots) := by
  refine MetFree.of_bodySF (plainFor_of_name pn_3) hisR ?_
  intro p e s m args below meth c s₁ Bd hml0 hP hK
  obtain ⟨rfl, hZ, hh⟩ := hP
  have hx := Bd.exec
  have hby := Bd.bytes
  have hml : c.maxLocals = 2 := hml0
  have hown : s.vm.findClass "java/util/Arrays" = some m.cls := findClass_of_methodNamed Bd.named
  have hnm := (name_of_methodNamed Bd.named Bd.method).1
  have X0 : Stand p l e ({ frames := 1, cells := 0, slots := 0, locals := 19 } : Room) s m #[(.ref r_WORD), (.int x)] below meth c s₁ [] 0 0 := Stand.of_body Bd
  have e0 : s₁.heap = h0 := by rw [← hh, Bd.state]; rfl
  have N0 := Fr.nil n0
  have pre0 : ∀ t, Steps p.tables e below (s₁.setTop (mkF m 0 #[.val (.ref r_WORD), .val (.int x)] [])) t → Steps p.tables e below (s₁.setTop (entryFrame m #[(.ref r_WORD), (.int x)] 2)) t := fun t k => castTop (by first | (simp [entryFrame, mkF, argsToLocals, Value.category]; done) | rfl) k
  obtain ⟨_, _, ⟨T1, L1, k1, n1⟩, -, X1, ⟨Lc1, hQ1, l1, y1, z1⟩, st1⟩ := Jvm.LawKit.callS X0 hx (y := (⟨"java/util/Arrays", "binarySearch0", "([IIII)I"⟩ : MethodName)) hown (mvT hZ (hw _ (List.mem_of_getElem? (i := 19) rfl))) (mvT hZ (hw _ (List.mem_of_getElem? (i := 20) rfl))) (mvT hZ (hw _ (List.mem_of_getElem? (i := 17) rfl))) (mvT hZ (hw _ (List.mem_of_getElem? (i := 21) rfl))) (by decide) (backOf (W := 0) (rm4_r_WORD_0_8_x_97_122 l Z a0 hw [] r_WORD x k_WORD h0 n0 Z0 hlo_x V_r_WORD hhi_x) hZ (hw _ (List.mem_of_getElem? (i := 21) rfl)) (hw _ (List.mem_of_getElem? (i := 17) rfl)) (by decide) (by decide)) (g := (mkF m 5 #[.val (.ref r_WORD), .val (.int x)] [(.int x), (.int 8), (.int 0), (.ref r_WORD)])) rfl (by rw [hml]; rfl) (argsL := [(.ref r_WORD), (.int 0), (.int 8), (.int x)]) (rest := []) (lenOf pd___IIII_I rfl) rfl (by show 2 * 0 + _ ≤ _; exact Nat.le_of_eq rfl) (hb hby d3_5) (fun _ _ => ⟨rfl, e0, (by decide : 0 + 0 ≤ _), (by decide : 0 + 0 ≤ _)⟩)
  dsimp only [Pt.U, Pt.locs, Pt.cells, Pt.slots] at X1 l1 y1 z1 st1 hQ1
  subst l1 y1 z1
  obtain ⟨rfl, N1q, e1⟩ := hQ1
  have N1 := Fr.app N0 N1q
  obtain ⟨fs, hr, hrun, hended, hW, hsame⟩ := X1.leave (v := some (.int (-8))) (fun h => by rw [Bd.returns] at h; cases h)
  refine ⟨_, _, pre0 _ ?_, hrun, hended, _, _, rfl, ?_, ⟨_, rfl⟩, hW, hsame.mono (by decide) (by decide)⟩
  · show Steps p.tables e below (s₁.setTop (mkF m 0 #[.val (.ref r_WORD), .val (.int x)] [])) _
    refine XS.aloadN X0.here hx rfl (hb hby d3_0) rfl rfl ?_
    show Steps p.tables e below (s₁.setTop (mkF m 1 #[.val (.ref r_WORD), .val (.int x)] [(.ref r_WORD)])) _
    refine XS.iconst X0.here hx rfl (hb hby d3_1) ?_
    show Steps p.tables e below (s₁.setTop (mkF m 2 #[.val (.ref r_WORD), .val (.int x)] [(.int 0), (.ref r_WORD)])) _
    refine XS.aloadN X0.here hx rfl (hb hby d3_2) rfl rfl ?_
    show Steps p.tables e below (s₁.setTop (mkF m 3 #[.val (.ref r_WORD), .val (.int x)] [(.ref r_WORD), (.int 0), (.ref r_WORD)])) _
    refine own_lenz X0 hx hZ e0 V_r_WORD (g := (mkF m 3 #[.val (.ref r_WORD), .val (.int x)] [(.ref r_WORD), (.int 0), (.ref r_WORD)])) rfl rfl (hb hby d3_3) _ ?_
    show Steps p.tables e below (s₁.setTop (mkF m 4 #[.val (.ref r_WORD), .val (.int x)] [(.int 8), (.int 0), (.ref r_WORD)])) _
    refine XS.iloadN X0.here hx rfl (hb hby d3_4) rfl ?_
    show Steps p.tables e below (s₁.setTop (mkF m 5 #[.val (.ref r_WORD), .val (.int x)] [(.int x), (.int 8), (.int 0), (.ref r_WORD)])) _
    refine st1 _ ?_
    show Steps p.tables e below (T1.setTop (mkF m 8 #[.val (.ref r_WORD), .val (.int x)] [(.int (-8))])) _
    exact retI X1 hx Bd.returns (hb hby d3_8) hr
  · show Q3_r_WORD_x_97_122 Z r_WORD x k_WORD h0 n0 _ T1.heap _
    rw [e1]
    exact ⟨rfl, N1, rfl⟩
def Q2_w_WORD_x_97_122_all_WORD (Z : State) (w_WORD : Addr) (x : Int32) (r_WORD : Addr) (k_WORD : ClassId) (h0 : Heap) (n0 : Nat) (v : Option Value) (h : Heap) (L : List Loc) : Prop := v = some (.int (own_w x)) ∧ Fr n0 L ∧ h = h0
set_option maxRecDepth 65536 in
set_option maxHeartbeats 40000000 in
theorem rm2_w_WORD_x_97_122_all_WORD (l : Launch) (Z : State) (a0 : Array Value) (hw : ∀ d ∈ tables_1, d.before a0 Z = true) (ws : List Jvm.Cond) (w_WORD : Addr) (x : Int32) (r_WORD : Addr) (k_WORD : ClassId) (h0 : Heap) (n0 : Nat) (Z0 : n0 ≤ h0.size) (F_ranges_w_WORD : Fld Z h0 w_WORD "com/example/termwell/termwell/core/text/CodePointSet" "ranges" "[I" (.ref r_WORD)) (V_r_WORD : Arv Z h0 r_WORD k_WORD .int (8 : Int32) [(.int 48), (.int 57), (.int 65), (.int 90), (.int 95), (.int 95), (.int 97), (.int 122)] (.int (0 : Int32))) (hlo_x : (97 : Int32) < x) (hhi_x : x < (122 : Int32)) (hret : (own_w x) = (1 : Int32)) :
    MetFree l (⟨"com/example/termwell/termwell/core/text/CodePointSet", "contains", "(I)Z"⟩ : MethodName) (head1 (Jvm.Cond.code (⟨"com/example/termwell/termwell/core/text/CodePointSet", "contains", "(I)Z"⟩ : MethodName) prog_19_method_4_code 3 (some .boolean) :: ws) ({ frames := 2, cells := 0, slots := 0, locals := 32 } : Room)) (fun a U => a = #[(.ref w_WORD), (.int x)] ∧ Z.Warmed39 U.vm ∧ U.heap = h0) (fun _ _ _ _ _ => True) (fun _ U o U' => ∃ v L, o = .returned v ∧ Q2_w_WORD_x_97_122_all_WORD Z w_WORD x r_WORD k_WORD h0 n0 v U'.heap L ∧ FrameEnd U o U' L ({ frames := 2, cells := 0, slots := 0, locals := 32 } : Room).cells ({ frames := 2, cells := 0, slots := 0, locals := 32 } : Room).slots) := by
  refine MetFree.of_bodySF (plainFor_of_name pn_2) hisR ?_
  intro p e s m args below meth c s₁ Bd hml0 hP hK
  obtain ⟨rfl, hZ, hh⟩ := hP
  have hx := Bd.exec
  have hby := Bd.bytes
  have hml : c.maxLocals = 3 := hml0
  have hown : s.vm.findClass "com/example/termwell/termwell/core/text/CodePointSet" = some m.cls := findClass_of_methodNamed Bd.named
  have hnm := (name_of_methodNamed Bd.named Bd.method).1
  have X0 : Stand p l e ({ frames := 2, cells := 0, slots := 0, locals := 32 } : Room) s m #[(.ref w_WORD), (.int x)] below meth c s₁ [] 0 0 := Stand.of_body Bd
  have e0 : s₁.heap = h0 := by rw [← hh, Bd.state]; rfl
  have N0 := Fr.nil n0
  have pre0 : ∀ t, Steps p.tables e below (s₁.setTop (mkF m 0 #[.val (.ref w_WORD), .val (.int x), .unset] [])) t → Steps p.tables e below (s₁.setTop (entryFrame m #[(.ref w_WORD), (.int x)] 3)) t := fun t k => castTop (by first | (simp [entryFrame, mkF, argsToLocals, Value.category]; done) | rfl) k
  obtain ⟨T1, X1, e1, st1⟩ := getF X0 hx hZ hown (host := "") (Or.inl (hw _ (List.mem_of_getElem? (i := 13) rfl))) Via.refl e0 F_ranges_w_WORD (g := (mkF m 1 #[.val (.ref w_WORD), .val (.int x), .unset] [(.ref w_WORD)])) rfl rfl (hb hby d2_1)
  obtain ⟨_, _, ⟨T2, L2, k2, n2⟩, -, X2, ⟨Lc2, hQ2, l2, y2, z2⟩, st2⟩ := Jvm.LawKit.callS X1 hx (y := (⟨"java/util/Arrays", "binarySearch", "([II)I"⟩ : MethodName)) hown (mvT hZ (hw _ (List.mem_of_getElem? (i := 15) rfl))) (mvT hZ (hw _ (List.mem_of_getElem? (i := 16) rfl))) (mvT hZ (hw _ (List.mem_of_getElem? (i := 17) rfl))) (mvT hZ (hw _ (List.mem_of_getElem? (i := 18) rfl))) (by decide) (backOf (W := 0) (rm3_r_WORD_x_97_122 l Z a0 hw [] r_WORD x k_WORD h0 n0 Z0 V_r_WORD hlo_x hhi_x) hZ (hw _ (List.mem_of_getElem? (i := 18) rfl)) (hw _ (List.mem_of_getElem? (i := 17) rfl)) (by decide) (by decide)) (g := (mkF m 5 #[.val (.ref w_WORD), .val (.int x), .unset] [(.int x), (.ref r_WORD)])) rfl (by rw [hml]; rfl) (argsL := [(.ref r_WORD), (.int x)]) (rest := []) (lenOf pd___II_I rfl) rfl (by show 2 * 0 + _ ≤ _; exact Nat.le_of_eq rfl) (hb hby d2_5) (fun _ _ => ⟨rfl, e1, (by decide : 0 + 0 ≤ _), (by decide : 0 + 0 ≤ _)⟩)
  dsimp only [Pt.U, Pt.locs, Pt.cells, Pt.slots] at X2 l2 y2 z2 st2 hQ2
  subst l2 y2 z2
  obtain ⟨rfl, N2q, e2⟩ := hQ2
  have N2 := Fr.app N0 N2q
  obtain ⟨fs, hr, hrun, hended, hW, hsame⟩ := X2.leave (v := some (.int 1)) (fun h => by rw [Bd.returns] at h; cases h)
  refine ⟨_, _, pre0 _ ?_, hrun, hended, _, _, rfl, ?_, ⟨_, rfl⟩, hW, hsame.mono (by decide) (by decide)⟩
  · show Steps p.tables e below (s₁.setTop (mkF m 0 #[.val (.ref w_WORD), .val (.int x), .unset] [])) _
    refine XS.aloadN X0.here hx rfl (hb hby d2_0) rfl rfl ?_
    show Steps p.tables e below (s₁.setTop (mkF m 1 #[.val (.ref w_WORD), .val (.int x), .unset] [(.ref w_WORD)])) _
    refine st1 _ ?_
    show Steps p.tables e below (T1.setTop (mkF m 4 #[.val (.ref w_WORD), .val (.int x), .unset] [(.ref r_WORD)])) _
    refine XS.iloadN X1.here hx rfl (hb hby d2_4) rfl ?_
    show Steps p.tables e below (T1.setTop (mkF m 5 #[.val (.ref w_WORD), .val (.int x), .unset] [(.int x), (.ref r_WORD)])) _
    refine st2 _ ?_
    show Steps p.tables e below (T2.setTop (mkF m 8 #[.val (.ref w_WORD), .val (.int x), .unset] [(.int (-8))])) _
    refine XS.istoreN X2.here hx rfl (hb hby d2_8) rfl (l' := #[.val (.ref w_WORD), .val (.int x), .val (.int (-8))]) rfl ?_
    show Steps p.tables e below (T2.setTop (mkF m 9 #[.val (.ref w_WORD), .val (.int x), .val (.int (-8))] [])) _
    refine XS.iloadN X2.here hx rfl (hb hby d2_9) rfl ?_
    show Steps p.tables e below (T2.setTop (mkF m 10 #[.val (.ref w_WORD), .val (.int x), .val (.int (-8))] [(.int (-8))])) _
    refine XS.ifNo X2.here hx rfl (hb hby d2_10) rfl ((if0 _ _).trans (tlt (by decide : (-8 : Int32) < (0 : Int32))).2.1) ?_
    show Steps p.tables e below (T2.setTop (mkF m 13 #[.val (.ref w_WORD), .val (.int x), .val (.int (-8))] [])) _
    refine XS.iloadN X2.here hx rfl (hb hby d2_13) rfl ?_
    show Steps p.tables e below (T2.setTop (mkF m 14 #[.val (.ref w_WORD), .val (.int x), .val (.int (-8))] [(.int (-8))])) _
    refine XS.ineg X2.here hx rfl (hb hby d2_14) rfl ?_
    show Steps p.tables e below (T2.setTop (mkF m 15 #[.val (.ref w_WORD), .val (.int x), .val (.int (-8))] [(.int (-(-8 : Int32)))])) _
    rw [(by decide : (-(-8 : Int32)) = (8 : Int32))]
    show Steps p.tables e below (T2.setTop (mkF m 15 #[.val (.ref w_WORD), .val (.int x), .val (.int (-8))] [(.int 8)])) _
    refine XS.iconst X2.here hx rfl (hb hby d2_15) ?_
    show Steps p.tables e below (T2.setTop (mkF m 16 #[.val (.ref w_WORD), .val (.int x), .val (.int (-8))] [(.int 1), (.int 8)])) _
    refine XS.isub X2.here hx rfl (hb hby d2_16) rfl ?_
    show Steps p.tables e below (T2.setTop (mkF m 17 #[.val (.ref w_WORD), .val (.int x), .val (.int (-8))] [(.int ((8 : Int32) - (1 : Int32)))])) _
    rw [(by decide : ((8 : Int32) - (1 : Int32)) = (7 : Int32))]
    show Steps p.tables e below (T2.setTop (mkF m 17 #[.val (.ref w_WORD), .val (.int x), .val (.int (-8))] [(.int 7)])) _
    refine XS.iconst X2.here hx rfl (hb hby d2_17) ?_
    show Steps p.tables e below (T2.setTop (mkF m 18 #[.val (.ref w_WORD), .val (.int x), .val (.int (-8))] [(.int 2), (.int 7)])) _
    refine iremM X2 hx rfl (hb hby d2_18) rfl (by decide) ?_
    show Steps p.tables e below (T2.setTop (mkF m 19 #[.val (.ref w_WORD), .val (.int x), .val (.int (-8))] [(.int ((7 : Int32) % (2 : Int32)))])) _
    rw [(by decide : ((7 : Int32) % (2 : Int32)) = (1 : Int32))]
    show Steps p.tables e below (T2.setTop (mkF m 19 #[.val (.ref w_WORD), .val (.int x), .val (.int (-8))] [(.int 1)])) _
    refine XS.iconst X2.here hx rfl (hb hby d2_19) ?_
    show Steps p.tables e below (T2.setTop (mkF m 20 #[.val (.ref w_WORD), .val (.int x), .val (.int (-8))] [(.int 1), (.int 1)])) _
    refine XS.icmpNo X2.here hx rfl (hb hby d2_20) rfl (teq (by decide : (1 : Int32) = (1 : Int32))).2 ?_
    show Steps p.tables e below (T2.setTop (mkF m 23 #[.val (.ref w_WORD), .val (.int x), .val (.int (-8))] [])) _
    refine XS.iconst X2.here hx rfl (hb hby d2_23) ?_
    show Steps p.tables e below (T2.setTop (mkF m 24 #[.val (.ref w_WORD), .val (.int x), .val (.int (-8))] [(.int 1)])) _
    refine XS.goto X2.here hx rfl (pc0 := 24) (pc' := 28) rfl (hb hby d2_24) (by decide) (by decide) ?_
    show Steps p.tables e below (T2.setTop (mkF m 28 #[.val (.ref w_WORD), .val (.int x), .val (.int (-8))] [(.int 1)])) _
    exact retN X2 hx (t := .boolean) Bd.returns (by simp) (hb hby d2_28) hr
  · show Q2_w_WORD_x_97_122_all_WORD Z w_WORD x r_WORD k_WORD h0 n0 _ T2.heap _
    rw [e2]
    exact ⟨(by rw [hret]), N2, rfl⟩
def Q4_r_WORD_0_8_122 (Z : State) (r_WORD : Addr) (k_WORD : ClassId) (h0 : Heap) (n0 : Nat) (v : Option Value) (h : Heap) (L : List Loc) : Prop := v = some (.int 7) ∧ Fr n0 L ∧ h = h0
set_option maxRecDepth 65536 in
set_option maxHeartbeats 40000000 in
theorem rm4_r_WORD_0_8_122 (l : Launch) (Z : State) (a0 : Array Value) (hw : ∀ d ∈ tables_1, d.before a0 Z = true) (ws : List Jvm.Cond) (r_WORD : Addr) (k_WORD : ClassId) (h0 : Heap) (n0 : Nat) (Z0 : n0 ≤ h0.size) (V_r_WORD : Arv Z h0 r_WORD k_WORD .int (8 : Int32) [(.int 48), (.int 57), (.int 65), (.int 90), (.int 95), (.int 95), (.int 97), (.int 122)] (.int (0 : Int32))) :
    MetFree l (⟨"java/util/Arrays", "binarySearch0", "([IIII)I"⟩ : MethodName) (head1 (Jvm.Cond.code (⟨"java/util/Arrays", "binarySearch0", "([IIII)I"⟩ : MethodName) jdk_65_method_59_code 8 (some .int) :: ws) ({ frames := 0, cells := 0, slots := 0, locals := 0 } : Room)) (fun a U => a = #[(.ref r_WORD), (.int 0), (.int 8), (.int 122)] ∧ Z.Warmed39 U.vm ∧ U.heap = h0) (fun _ _ _ _ _ => True) (fun _ U o U' => ∃ v L, o = .returned v ∧ Q4_r_WORD_0_8_122 Z r_WORD k_WORD h0 n0 v U'.heap L ∧ FrameEnd U o U' L ({ frames := 0, cells := 0, slots := 0, locals := 0 } : Room).cells ({ frames := 0, cells := 0, slots := 0, locals := 0 } : Room).slots) := by
  refine MetFree.of_bodySF (plainFor_of_name pn_4) hisR ?_
  intro p e s m args below meth c s₁ Bd hml0 hP hK
  obtain ⟨rfl, hZ, hh⟩ := hP
  have hx := Bd.exec
  have hby := Bd.bytes
  have hml : c.maxLocals = 8 := hml0
  have hown : s.vm.findClass "java/util/Arrays" = some m.cls := findClass_of_methodNamed Bd.named
  have hnm := (name_of_methodNamed Bd.named Bd.method).1
  have X0 : Stand p l e ({ frames := 0, cells := 0, slots := 0, locals := 0 } : Room) s m #[(.ref r_WORD), (.int 0), (.int 8), (.int 122)] below meth c s₁ [] 0 0 := Stand.of_body Bd
  have e0 : s₁.heap = h0 := by rw [← hh, Bd.state]; rfl
  have N0 := Fr.nil n0
  have pre0 : ∀ t, Steps p.tables e below (s₁.setTop (mkF m 0 #[.val (.ref r_WORD), .val (.int 0), .val (.int 8), .val (.int 122), .unset, .unset, .unset, .unset] [])) t → Steps p.tables e below (s₁.setTop (entryFrame m #[(.ref r_WORD), (.int 0), (.int 8), (.int 122)] 8)) t := fun t k => castTop (by first | (simp [entryFrame, mkF, argsToLocals, Value.category]; done) | rfl) k
  obtain ⟨fs, hr, hrun, hended, hW, hsame⟩ := X0.leave (v := some (.int 7)) (fun h => by rw [Bd.returns] at h; cases h)
  refine ⟨_, _, pre0 _ ?_, hrun, hended, _, _, rfl, ?_, ⟨_, rfl⟩, hW, hsame.mono (by decide) (by decide)⟩
  · show Steps p.tables e below (s₁.setTop (mkF m 0 #[.val (.ref r_WORD), .val (.int 0), .val (.int 8), .val (.int 122), .unset, .unset, .unset, .unset] [])) _
    refine XS.iloadN X0.here hx rfl (hb hby d4_0) rfl ?_
    show Steps p.tables e below (s₁.setTop (mkF m 1 #[.val (.ref r_WORD), .val (.int 0), .val (.int 8), .val (.int 122), .unset, .unset, .unset, .unset] [(.int 0)])) _
    refine XS.istore X0.here hx rfl (hb hby d4_1) rfl (l' := #[.val (.ref r_WORD), .val (.int 0), .val (.int 8), .val (.int 122), .val (.int 0), .unset, .unset, .unset]) rfl ?_
    show Steps p.tables e below (s₁.setTop (mkF m 3 #[.val (.ref r_WORD), .val (.int 0), .val (.int 8), .val (.int 122), .val (.int 0), .unset, .unset, .unset] [])) _
    refine XS.iloadN X0.here hx rfl (hb hby d4_3) rfl ?_
    show Steps p.tables e below (s₁.setTop (mkF m 4 #[.val (.ref r_WORD), .val (.int 0), .val (.int 8), .val (.int 122), .val (.int 0), .unset, .unset, .unset] [(.int 8)])) _
    refine XS.iconst X0.here hx rfl (hb hby d4_4) ?_
    show Steps p.tables e below (s₁.setTop (mkF m 5 #[.val (.ref r_WORD), .val (.int 0), .val (.int 8), .val (.int 122), .val (.int 0), .unset, .unset, .unset] [(.int 1), (.int 8)])) _
    refine XS.isub X0.here hx rfl (hb hby d4_5) rfl ?_
    show Steps p.tables e below (s₁.setTop (mkF m 6 #[.val (.ref r_WORD), .val (.int 0), .val (.int 8), .val (.int 122), .val (.int 0), .unset, .unset, .unset] [(.int ((8 : Int32) - (1 : Int32)))])) _
    rw [(by decide : ((8 : Int32) - (1 : Int32)) = (7 : Int32))]
    show Steps p.tables e below (s₁.setTop (mkF m 6 #[.val (.ref r_WORD), .val (.int 0), .val (.int 8), .val (.int 122), .val (.int 0), .unset, .unset, .unset] [(.int 7)])) _
    refine XS.istore X0.here hx rfl (hb hby d4_6) rfl (l' := #[.val (.ref r_WORD), .val (.int 0), .val (.int 8), .val (.int 122), .val (.int 0), .val (.int 7), .unset, .unset]) rfl ?_
    show Steps p.tables e below (s₁.setTop (mkF m 8 #[.val (.ref r_WORD), .val (.int 0), .val (.int 8), .val (.int 122), .val (.int 0), .val (.int 7), .unset, .unset] [])) _
    refine tnLu r_WORD (0 : Int32) (8 : Int32) (122 : Int32) (0 : Int32) (7 : Int32) (3 : Int32) k_WORD (8 : Int32) [(.int 48), (.int 57), (.int 65), (.int 90), (.int 95), (.int 95), (.int 97), (.int 122)] (.int (0 : Int32)) (90 : Int32) (4 : Int32) X0 hx hZ hby e0 (by decide) (by decide) V_r_WORD ⟨by decide, by decide⟩ rfl (by decide) (by decide) _ ?_
    show Steps p.tables e below (s₁.setTop (mkF m 8 #[.val (.ref r_WORD), .val (.int 0), .val (.int 8), .val (.int 122), .val (.int 4), .val (.int 7), .val (.int 3), .val (.int 90)] [])) _
    refine tnLv r_WORD (0 : Int32) (8 : Int32) (122 : Int32) (4 : Int32) (7 : Int32) (3 : Int32) (90 : Int32) (5 : Int32) k_WORD (8 : Int32) [(.int 48), (.int 57), (.int 65), (.int 90), (.int 95), (.int 95), (.int 97), (.int 122)] (.int (0 : Int32)) (95 : Int32) (6 : Int32) X0 hx hZ hby e0 (by decide) (by decide) V_r_WORD ⟨by decide, by decide⟩ rfl (by decide) (by decide) _ ?_
    show Steps p.tables e below (s₁.setTop (mkF m 8 #[.val (.ref r_WORD), .val (.int 0), .val (.int 8), .val (.int 122), .val (.int 6), .val (.int 7), .val (.int 5), .val (.int 95)] [])) _
    refine tnLv r_WORD (0 : Int32) (8 : Int32) (122 : Int32) (6 : Int32) (7 : Int32) (5 : Int32) (95 : Int32) (6 : Int32) k_WORD (8 : Int32) [(.int 48), (.int 57), (.int 65), (.int 90), (.int 95), (.int 95), (.int 97), (.int 122)] (.int (0 : Int32)) (97 : Int32) (7 : Int32) X0 hx hZ hby e0 (by decide) (by decide) V_r_WORD ⟨by decide, by decide⟩ rfl (by decide) (by decide) _ ?_
    show Steps p.tables e below (s₁.setTop (mkF m 8 #[.val (.ref r_WORD), .val (.int 0), .val (.int 8), .val (.int 122), .val (.int 7), .val (.int 7), .val (.int 6), .val (.int 97)] [])) _
    refine XS.iload X0.here hx rfl (hb hby d4_8) rfl ?_
    show Steps p.tables e below (s₁.setTop (mkF m 10 #[.val (.ref r_WORD), .val (.int 0), .val (.int 8), .val (.int 122), .val (.int 7), .val (.int 7), .val (.int 6), .val (.int 97)] [(.int 7)])) _
    refine XS.iload X0.here hx rfl (hb hby d4_10) rfl ?_
    show Steps p.tables e below (s₁.setTop (mkF m 12 #[.val (.ref r_WORD), .val (.int 0), .val (.int 8), .val (.int 122), .val (.int 7), .val (.int 7), .val (.int 6), .val (.int 97)] [(.int 7), (.int 7)])) _
    refine XS.icmpNo X0.here hx rfl (hb hby d4_12) rfl (flt (by decide : ¬ ((7 : Int32) < (7 : Int32)))).2.2.1 ?_
    show Steps p.tables e below (s₁.setTop (mkF m 15 #[.val (.ref r_WORD), .val (.int 0), .val (.int 8), .val (.int 122), .val (.int 7), .val (.int 7), .val (.int 6), .val (.int 97)] [])) _
    refine XS.iload X0.here hx rfl (hb hby d4_15) rfl ?_
    show Steps p.tables e below (s₁.setTop (mkF m 17 #[.val (.ref r_WORD), .val (.int 0), .val (.int 8), .val (.int 122), .val (.int 7), .val (.int 7), .val (.int 6), .val (.int 97)] [(.int 7)])) _
    refine XS.iload X0.here hx rfl (hb hby d4_17) rfl ?_
    show Steps p.tables e below (s₁.setTop (mkF m 19 #[.val (.ref r_WORD), .val (.int 0), .val (.int 8), .val (.int 122), .val (.int 7), .val (.int 7), .val (.int 6), .val (.int 97)] [(.int 7), (.int 7)])) _
    refine XS.iadd X0.here hx rfl (hb hby d4_19) rfl ?_
    show Steps p.tables e below (s₁.setTop (mkF m 20 #[.val (.ref r_WORD), .val (.int 0), .val (.int 8), .val (.int 122), .val (.int 7), .val (.int 7), .val (.int 6), .val (.int 97)] [(.int ((7 : Int32) + (7 : Int32)))])) _
    rw [(by decide : ((7 : Int32) + (7 : Int32)) = (14 : Int32))]
    show Steps p.tables e below (s₁.setTop (mkF m 20 #[.val (.ref r_WORD), .val (.int 0), .val (.int 8), .val (.int 122), .val (.int 7), .val (.int 7), .val (.int 6), .val (.int 97)] [(.int 14)])) _
    refine XS.iconst X0.here hx rfl (hb hby d4_20) ?_
    show Steps p.tables e below (s₁.setTop (mkF m 21 #[.val (.ref r_WORD), .val (.int 0), .val (.int 8), .val (.int 122), .val (.int 7), .val (.int 7), .val (.int 6), .val (.int 97)] [(.int 1), (.int 14)])) _
    refine XS.iushr X0.here hx rfl (hb hby d4_21) rfl ?_
    show Steps p.tables e below (s₁.setTop (mkF m 22 #[.val (.ref r_WORD), .val (.int 0), .val (.int 8), .val (.int 122), .val (.int 7), .val (.int 7), .val (.int 6), .val (.int 97)] [(.int (((14 : Int32).toUInt32 >>> ((1 : Int32) &&& 31).toUInt32).toInt32))])) _
    rw [(by decide : (((14 : Int32).toUInt32 >>> ((1 : Int32) &&& 31).toUInt32).toInt32) = (7 : Int32))]
    show Steps p.tables e below (s₁.setTop (mkF m 22 #[.val (.ref r_WORD), .val (.int 0), .val (.int 8), .val (.int 122), .val (.int 7), .val (.int 7), .val (.int 6), .val (.int 97)] [(.int 7)])) _
    refine XS.istore X0.here hx rfl (hb hby d4_22) rfl (l' := #[.val (.ref r_WORD), .val (.int 0), .val (.int 8), .val (.int 122), .val (.int 7), .val (.int 7), .val (.int 7), .val (.int 97)]) rfl ?_
    show Steps p.tables e below (s₁.setTop (mkF m 24 #[.val (.ref r_WORD), .val (.int 0), .val (.int 8), .val (.int 122), .val (.int 7), .val (.int 7), .val (.int 7), .val (.int 97)] [])) _
    refine XS.aloadN X0.here hx rfl (hb hby d4_24) rfl rfl ?_
    show Steps p.tables e below (s₁.setTop (mkF m 25 #[.val (.ref r_WORD), .val (.int 0), .val (.int 8), .val (.int 122), .val (.int 7), .val (.int 7), .val (.int 7), .val (.int 97)] [(.ref r_WORD)])) _
    refine XS.iload X0.here hx rfl (hb hby d4_25) rfl ?_
    show Steps p.tables e below (s₁.setTop (mkF m 27 #[.val (.ref r_WORD), .val (.int 0), .val (.int 8), .val (.int 122), .val (.int 7), .val (.int 7), .val (.int 7), .val (.int 97)] [(.int 7), (.ref r_WORD)])) _
    refine own_ldI X0 hx hZ e0 V_r_WORD (j := (7 : Int32)) ⟨by decide, by decide⟩ rfl (g := (mkF m 27 #[.val (.ref r_WORD), .val (.int 0), .val (.int 8), .val (.int 122), .val (.int 7), .val (.int 7), .val (.int 7), .val (.int 97)] [(.int 7), (.ref r_WORD)])) rfl rfl (hb hby d4_27) _ ?_
    show Steps p.tables e below (s₁.setTop (mkF m 28 #[.val (.ref r_WORD), .val (.int 0), .val (.int 8), .val (.int 122), .val (.int 7), .val (.int 7), .val (.int 7), .val (.int 97)] [(.int 122)])) _
    refine XS.istore X0.here hx rfl (hb hby d4_28) rfl (l' := #[.val (.ref r_WORD), .val (.int 0), .val (.int 8), .val (.int 122), .val (.int 7), .val (.int 7), .val (.int 7), .val (.int 122)]) rfl ?_
    show Steps p.tables e below (s₁.setTop (mkF m 30 #[.val (.ref r_WORD), .val (.int 0), .val (.int 8), .val (.int 122), .val (.int 7), .val (.int 7), .val (.int 7), .val (.int 122)] [])) _
    refine XS.iload X0.here hx rfl (hb hby d4_30) rfl ?_
    show Steps p.tables e below (s₁.setTop (mkF m 32 #[.val (.ref r_WORD), .val (.int 0), .val (.int 8), .val (.int 122), .val (.int 7), .val (.int 7), .val (.int 7), .val (.int 122)] [(.int 122)])) _
    refine XS.iloadN X0.here hx rfl (hb hby d4_32) rfl ?_
    show Steps p.tables e below (s₁.setTop (mkF m 33 #[.val (.ref r_WORD), .val (.int 0), .val (.int 8), .val (.int 122), .val (.int 7), .val (.int 7), .val (.int 7), .val (.int 122)] [(.int 122), (.int 122)])) _
    refine XS.icmpYes X0.here hx rfl (pc0 := 33) (pc' := 45) rfl (hb hby d4_33) rfl (flt (by decide : ¬ ((122 : Int32) < (122 : Int32)))).2.1 (by decide) (by decide) ?_
    show Steps p.tables e below (s₁.setTop (mkF m 45 #[.val (.ref r_WORD), .val (.int 0), .val (.int 8), .val (.int 122), .val (.int 7), .val (.int 7), .val (.int 7), .val (.int 122)] [])) _
    refine XS.iload X0.here hx rfl (hb hby d4_45) rfl ?_
    show Steps p.tables e below (s₁.setTop (mkF m 47 #[.val (.ref r_WORD), .val (.int 0), .val (.int 8), .val (.int 122), .val (.int 7), .val (.int 7), .val (.int 7), .val (.int 122)] [(.int 122)])) _
    refine XS.iloadN X0.here hx rfl (hb hby d4_47) rfl ?_
    show Steps p.tables e below (s₁.setTop (mkF m 48 #[.val (.ref r_WORD), .val (.int 0), .val (.int 8), .val (.int 122), .val (.int 7), .val (.int 7), .val (.int 7), .val (.int 122)] [(.int 122), (.int 122)])) _
    refine XS.icmpYes X0.here hx rfl (pc0 := 48) (pc' := 60) rfl (hb hby d4_48) rfl (flt (by decide : ¬ ((122 : Int32) < (122 : Int32)))).2.2.2 (by decide) (by decide) ?_
    show Steps p.tables e below (s₁.setTop (mkF m 60 #[.val (.ref r_WORD), .val (.int 0), .val (.int 8), .val (.int 122), .val (.int 7), .val (.int 7), .val (.int 7), .val (.int 122)] [])) _
    refine XS.iload X0.here hx rfl (hb hby d4_60) rfl ?_
    show Steps p.tables e below (s₁.setTop (mkF m 62 #[.val (.ref r_WORD), .val (.int 0), .val (.int 8), .val (.int 122), .val (.int 7), .val (.int 7), .val (.int 7), .val (.int 122)] [(.int 7)])) _
    exact retI X0 hx Bd.returns (hb hby d4_62) hr
  · show Q4_r_WORD_0_8_122 Z r_WORD k_WORD h0 n0 _ s₁.heap _
    rw [e0]
    exact ⟨rfl, N0, rfl⟩
def Q3_r_WORD_122 (Z : State) (r_WORD : Addr) (k_WORD : ClassId) (h0 : Heap) (n0 : Nat) (v : Option Value) (h : Heap) (L : List Loc) : Prop := v = some (.int 7) ∧ Fr n0 L ∧ h = h0
set_option maxRecDepth 65536 in
set_option maxHeartbeats 40000000 in
theorem rm3_r_WORD_122 (l : Launch) (Z : State) (a0 : Array Value) (hw : ∀ d ∈ tables_1, d.before a0 Z = true) (ws : List Jvm.Cond) (r_WORD : Addr) (k_WORD : ClassId) (h0 : Heap) (n0 : Nat) (Z0 : n0 ≤ h0.size) (V_r_WORD : Arv Z h0 r_WORD k_WORD .int (8 : Int32) [(.int 48), (.int 57), (.int 65), (.int 90), (.int 95), (.int 95), (.int 97), (.int 122)] (.int (0 : Int32))) :
    MetFree l (⟨"java/util/Arrays", "binarySearch", "([II)I"⟩ : MethodName) (head1 (Jvm.Cond.code (⟨"java/util/Arrays", "binarySearch", "([II)I"⟩ : MethodName) jdk_65_method_57_code 2 (some .int) :: ws) ({ frames := 1, cells := 0, slots := 0, locals := 19 } : Room)) (fun a U => a = #[(.ref r_WORD), (.int 122)] ∧ Z.Warmed39 U.vm ∧ U.heap = h0) (fun _ _ _ _ _ => True) (fun _ U o U' => ∃ v L, o = .returned v ∧ Q3_r_WORD_122 Z r_WORD k_WORD h0 n0 v U'.heap L ∧ FrameEnd U o U' L ({ frames := 1, cells := 0, slots := 0, locals := 19 } : Room).cells ({ frames := 1, cells := 0, slots := 0, locals := 19 } : Room).slots) := by
  refine MetFree.of_bodySF (plainFor_of_name pn_3) hisR ?_
  intro p e s m args below meth c s₁ Bd hml0 hP hK
  obtain ⟨rfl, hZ, hh⟩ := hP
  have hx := Bd.exec
  have hby := Bd.bytes
  have hml : c.maxLocals = 2 := hml0
  have hown : s.vm.findClass "java/util/Arrays" = some m.cls := findClass_of_methodNamed Bd.named
  have hnm := (name_of_methodNamed Bd.named Bd.method).1
  have X0 : Stand p l e ({ frames := 1, cells := 0, slots := 0, locals := 19 } : Room) s m #[(.ref r_WORD), (.int 122)] below meth c s₁ [] 0 0 := Stand.of_body Bd
  have e0 : s₁.heap = h0 := by rw [← hh, Bd.state]; rfl
  have N0 := Fr.nil n0
  have pre0 : ∀ t, Steps p.tables e below (s₁.setTop (mkF m 0 #[.val (.ref r_WORD), .val (.int 122)] [])) t → Steps p.tables e below (s₁.setTop (entryFrame m #[(.ref r_WORD), (.int 122)] 2)) t := fun t k => castTop (by first | (simp [entryFrame, mkF, argsToLocals, Value.category]; done) | rfl) k
  obtain ⟨_, _, ⟨T1, L1, k1, n1⟩, -, X1, ⟨Lc1, hQ1, l1, y1, z1⟩, st1⟩ := Jvm.LawKit.callS X0 hx (y := (⟨"java/util/Arrays", "binarySearch0", "([IIII)I"⟩ : MethodName)) hown (mvT hZ (hw _ (List.mem_of_getElem? (i := 19) rfl))) (mvT hZ (hw _ (List.mem_of_getElem? (i := 20) rfl))) (mvT hZ (hw _ (List.mem_of_getElem? (i := 17) rfl))) (mvT hZ (hw _ (List.mem_of_getElem? (i := 21) rfl))) (by decide) (backOf (W := 0) (rm4_r_WORD_0_8_122 l Z a0 hw [] r_WORD k_WORD h0 n0 Z0 V_r_WORD) hZ (hw _ (List.mem_of_getElem? (i := 21) rfl)) (hw _ (List.mem_of_getElem? (i := 17) rfl)) (by decide) (by decide)) (g := (mkF m 5 #[.val (.ref r_WORD), .val (.int 122)] [(.int 122), (.int 8), (.int 0), (.ref r_WORD)])) rfl (by rw [hml]; rfl) (argsL := [(.ref r_WORD), (.int 0), (.int 8), (.int 122)]) (rest := []) (lenOf pd___IIII_I rfl) rfl (by show 2 * 0 + _ ≤ _; exact Nat.le_of_eq rfl) (hb hby d3_5) (fun _ _ => ⟨rfl, e0, (by decide : 0 + 0 ≤ _), (by decide : 0 + 0 ≤ _)⟩)
  dsimp only [Pt.U, Pt.locs, Pt.cells, Pt.slots] at X1 l1 y1 z1 st1 hQ1
  subst l1 y1 z1
  obtain ⟨rfl, N1q, e1⟩ := hQ1
  have N1 := Fr.app N0 N1q
  obtain ⟨fs, hr, hrun, hended, hW, hsame⟩ := X1.leave (v := some (.int 7)) (fun h => by rw [Bd.returns] at h; cases h)
  refine ⟨_, _, pre0 _ ?_, hrun, hended, _, _, rfl, ?_, ⟨_, rfl⟩, hW, hsame.mono (by decide) (by decide)⟩
  · show Steps p.tables e below (s₁.setTop (mkF m 0 #[.val (.ref r_WORD), .val (.int 122)] [])) _
    refine XS.aloadN X0.here hx rfl (hb hby d3_0) rfl rfl ?_
    show Steps p.tables e below (s₁.setTop (mkF m 1 #[.val (.ref r_WORD), .val (.int 122)] [(.ref r_WORD)])) _
    refine XS.iconst X0.here hx rfl (hb hby d3_1) ?_
    show Steps p.tables e below (s₁.setTop (mkF m 2 #[.val (.ref r_WORD), .val (.int 122)] [(.int 0), (.ref r_WORD)])) _
    refine XS.aloadN X0.here hx rfl (hb hby d3_2) rfl rfl ?_
    show Steps p.tables e below (s₁.setTop (mkF m 3 #[.val (.ref r_WORD), .val (.int 122)] [(.ref r_WORD), (.int 0), (.ref r_WORD)])) _
    refine own_lenz X0 hx hZ e0 V_r_WORD (g := (mkF m 3 #[.val (.ref r_WORD), .val (.int 122)] [(.ref r_WORD), (.int 0), (.ref r_WORD)])) rfl rfl (hb hby d3_3) _ ?_
    show Steps p.tables e below (s₁.setTop (mkF m 4 #[.val (.ref r_WORD), .val (.int 122)] [(.int 8), (.int 0), (.ref r_WORD)])) _
    refine XS.iloadN X0.here hx rfl (hb hby d3_4) rfl ?_
    show Steps p.tables e below (s₁.setTop (mkF m 5 #[.val (.ref r_WORD), .val (.int 122)] [(.int 122), (.int 8), (.int 0), (.ref r_WORD)])) _
    refine st1 _ ?_
    show Steps p.tables e below (T1.setTop (mkF m 8 #[.val (.ref r_WORD), .val (.int 122)] [(.int 7)])) _
    exact retI X1 hx Bd.returns (hb hby d3_8) hr
  · show Q3_r_WORD_122 Z r_WORD k_WORD h0 n0 _ T1.heap _
    rw [e1]
    exact ⟨rfl, N1, rfl⟩
def Q2_w_WORD_122_all_WORD (Z : State) (w_WORD : Addr) (r_WORD : Addr) (k_WORD : ClassId) (h0 : Heap) (n0 : Nat) (v : Option Value) (h : Heap) (L : List Loc) : Prop := v = some (.int (own_w (122 : Int32))) ∧ Fr n0 L ∧ h = h0
set_option maxRecDepth 65536 in
set_option maxHeartbeats 40000000 in
theorem rm2_w_WORD_122_all_WORD (l : Launch) (Z : State) (a0 : Array Value) (hw : ∀ d ∈ tables_1, d.before a0 Z = true) (ws : List Jvm.Cond) (w_WORD : Addr) (r_WORD : Addr) (k_WORD : ClassId) (h0 : Heap) (n0 : Nat) (Z0 : n0 ≤ h0.size) (F_ranges_w_WORD : Fld Z h0 w_WORD "com/example/termwell/termwell/core/text/CodePointSet" "ranges" "[I" (.ref r_WORD)) (V_r_WORD : Arv Z h0 r_WORD k_WORD .int (8 : Int32) [(.int 48), (.int 57), (.int 65), (.int 90), (.int 95), (.int 95), (.int 97), (.int 122)] (.int (0 : Int32))) (hret : (own_w (122 : Int32)) = (1 : Int32)) :
    MetFree l (⟨"com/example/termwell/termwell/core/text/CodePointSet", "contains", "(I)Z"⟩ : MethodName) (head1 (Jvm.Cond.code (⟨"com/example/termwell/termwell/core/text/CodePointSet", "contains", "(I)Z"⟩ : MethodName) prog_19_method_4_code 3 (some .boolean) :: ws) ({ frames := 2, cells := 0, slots := 0, locals := 32 } : Room)) (fun a U => a = #[(.ref w_WORD), (.int 122)] ∧ Z.Warmed39 U.vm ∧ U.heap = h0) (fun _ _ _ _ _ => True) (fun _ U o U' => ∃ v L, o = .returned v ∧ Q2_w_WORD_122_all_WORD Z w_WORD r_WORD k_WORD h0 n0 v U'.heap L ∧ FrameEnd U o U' L ({ frames := 2, cells := 0, slots := 0, locals := 32 } : Room).cells ({ frames := 2, cells := 0, slots := 0, locals := 32 } : Room).slots) := by
  refine MetFree.of_bodySF (plainFor_of_name pn_2) hisR ?_
  intro p e s m args below meth c s₁ Bd hml0 hP hK
  obtain ⟨rfl, hZ, hh⟩ := hP
  have hx := Bd.exec
  have hby := Bd.bytes
  have hml : c.maxLocals = 3 := hml0
  have hown : s.vm.findClass "com/example/termwell/termwell/core/text/CodePointSet" = some m.cls := findClass_of_methodNamed Bd.named
  have hnm := (name_of_methodNamed Bd.named Bd.method).1
  have X0 : Stand p l e ({ frames := 2, cells := 0, slots := 0, locals := 32 } : Room) s m #[(.ref w_WORD), (.int 122)] below meth c s₁ [] 0 0 := Stand.of_body Bd
  have e0 : s₁.heap = h0 := by rw [← hh, Bd.state]; rfl
  have N0 := Fr.nil n0
  have pre0 : ∀ t, Steps p.tables e below (s₁.setTop (mkF m 0 #[.val (.ref w_WORD), .val (.int 122), .unset] [])) t → Steps p.tables e below (s₁.setTop (entryFrame m #[(.ref w_WORD), (.int 122)] 3)) t := fun t k => castTop (by first | (simp [entryFrame, mkF, argsToLocals, Value.category]; done) | rfl) k
  obtain ⟨T1, X1, e1, st1⟩ := getF X0 hx hZ hown (host := "") (Or.inl (hw _ (List.mem_of_getElem? (i := 13) rfl))) Via.refl e0 F_ranges_w_WORD (g := (mkF m 1 #[.val (.ref w_WORD), .val (.int 122), .unset] [(.ref w_WORD)])) rfl rfl (hb hby d2_1)
  obtain ⟨_, _, ⟨T2, L2, k2, n2⟩, -, X2, ⟨Lc2, hQ2, l2, y2, z2⟩, st2⟩ := Jvm.LawKit.callS X1 hx (y := (⟨"java/util/Arrays", "binarySearch", "([II)I"⟩ : MethodName)) hown (mvT hZ (hw _ (List.mem_of_getElem? (i := 15) rfl))) (mvT hZ (hw _ (List.mem_of_getElem? (i := 16) rfl))) (mvT hZ (hw _ (List.mem_of_getElem? (i := 17) rfl))) (mvT hZ (hw _ (List.mem_of_getElem? (i := 18) rfl))) (by decide) (backOf (W := 0) (rm3_r_WORD_122 l Z a0 hw [] r_WORD k_WORD h0 n0 Z0 V_r_WORD) hZ (hw _ (List.mem_of_getElem? (i := 18) rfl)) (hw _ (List.mem_of_getElem? (i := 17) rfl)) (by decide) (by decide)) (g := (mkF m 5 #[.val (.ref w_WORD), .val (.int 122), .unset] [(.int 122), (.ref r_WORD)])) rfl (by rw [hml]; rfl) (argsL := [(.ref r_WORD), (.int 122)]) (rest := []) (lenOf pd___II_I rfl) rfl (by show 2 * 0 + _ ≤ _; exact Nat.le_of_eq rfl) (hb hby d2_5) (fun _ _ => ⟨rfl, e1, (by decide : 0 + 0 ≤ _), (by decide : 0 + 0 ≤ _)⟩)
  dsimp only [Pt.U, Pt.locs, Pt.cells, Pt.slots] at X2 l2 y2 z2 st2 hQ2
  subst l2 y2 z2
  obtain ⟨rfl, N2q, e2⟩ := hQ2
  have N2 := Fr.app N0 N2q
  obtain ⟨fs, hr, hrun, hended, hW, hsame⟩ := X2.leave (v := some (.int 1)) (fun h => by rw [Bd.returns] at h; cases h)
  refine ⟨_, _, pre0 _ ?_, hrun, hended, _, _, rfl, ?_, ⟨_, rfl⟩, hW, hsame.mono (by decide) (by decide)⟩
  · show Steps p.tables e below (s₁.setTop (mkF m 0 #[.val (.ref w_WORD), .val (.int 122), .unset] [])) _
    refine XS.aloadN X0.here hx rfl (hb hby d2_0) rfl rfl ?_
    show Steps p.tables e below (s₁.setTop (mkF m 1 #[.val (.ref w_WORD), .val (.int 122), .unset] [(.ref w_WORD)])) _
    refine st1 _ ?_
    show Steps p.tables e below (T1.setTop (mkF m 4 #[.val (.ref w_WORD), .val (.int 122), .unset] [(.ref r_WORD)])) _
    refine XS.iloadN X1.here hx rfl (hb hby d2_4) rfl ?_
    show Steps p.tables e below (T1.setTop (mkF m 5 #[.val (.ref w_WORD), .val (.int 122), .unset] [(.int 122), (.ref r_WORD)])) _
    refine st2 _ ?_
    show Steps p.tables e below (T2.setTop (mkF m 8 #[.val (.ref w_WORD), .val (.int 122), .unset] [(.int 7)])) _
    refine XS.istoreN X2.here hx rfl (hb hby d2_8) rfl (l' := #[.val (.ref w_WORD), .val (.int 122), .val (.int 7)]) rfl ?_
    show Steps p.tables e below (T2.setTop (mkF m 9 #[.val (.ref w_WORD), .val (.int 122), .val (.int 7)] [])) _
    refine XS.iloadN X2.here hx rfl (hb hby d2_9) rfl ?_
    show Steps p.tables e below (T2.setTop (mkF m 10 #[.val (.ref w_WORD), .val (.int 122), .val (.int 7)] [(.int 7)])) _
    refine XS.ifYes X2.here hx rfl (pc0 := 10) (pc' := 23) rfl (hb hby d2_10) rfl ((if0 _ _).trans (flt (by decide : ¬ ((7 : Int32) < (0 : Int32)))).2.1) (by decide) (by decide) ?_
    show Steps p.tables e below (T2.setTop (mkF m 23 #[.val (.ref w_WORD), .val (.int 122), .val (.int 7)] [])) _
    refine XS.iconst X2.here hx rfl (hb hby d2_23) ?_
    show Steps p.tables e below (T2.setTop (mkF m 24 #[.val (.ref w_WORD), .val (.int 122), .val (.int 7)] [(.int 1)])) _
    refine XS.goto X2.here hx rfl (pc0 := 24) (pc' := 28) rfl (hb hby d2_24) (by decide) (by decide) ?_
    show Steps p.tables e below (T2.setTop (mkF m 28 #[.val (.ref w_WORD), .val (.int 122), .val (.int 7)] [(.int 1)])) _
    exact retN X2 hx (t := .boolean) Bd.returns (by simp) (hb hby d2_28) hr
  · show Q2_w_WORD_122_all_WORD Z w_WORD r_WORD k_WORD h0 n0 _ T2.heap _
    rw [e2]
    exact ⟨(by rw [hret]), N2, rfl⟩
def Q4_r_WORD_0_8_x_122_None (Z : State) (r_WORD : Addr) (x : Int32) (k_WORD : ClassId) (h0 : Heap) (n0 : Nat) (v : Option Value) (h : Heap) (L : List Loc) : Prop := v = some (.int (-9)) ∧ Fr n0 L ∧ h = h0
set_option maxRecDepth 65536 in
set_option maxHeartbeats 40000000 in
theorem rm4_r_WORD_0_8_x_122_None (l : Launch) (Z : State) (a0 : Array Value) (hw : ∀ d ∈ tables_1, d.before a0 Z = true) (ws : List Jvm.Cond) (r_WORD : Addr) (x : Int32) (k_WORD : ClassId) (h0 : Heap) (n0 : Nat) (Z0 : n0 ≤ h0.size) (hlo_x : (122 : Int32) < x) (V_r_WORD : Arv Z h0 r_WORD k_WORD .int (8 : Int32) [(.int 48), (.int 57), (.int 65), (.int 90), (.int 95), (.int 95), (.int 97), (.int 122)] (.int (0 : Int32))) :
    MetFree l (⟨"java/util/Arrays", "binarySearch0", "([IIII)I"⟩ : MethodName) (head1 (Jvm.Cond.code (⟨"java/util/Arrays", "binarySearch0", "([IIII)I"⟩ : MethodName) jdk_65_method_59_code 8 (some .int) :: ws) ({ frames := 0, cells := 0, slots := 0, locals := 0 } : Room)) (fun a U => a = #[(.ref r_WORD), (.int 0), (.int 8), (.int x)] ∧ Z.Warmed39 U.vm ∧ U.heap = h0) (fun _ _ _ _ _ => True) (fun _ U o U' => ∃ v L, o = .returned v ∧ Q4_r_WORD_0_8_x_122_None Z r_WORD x k_WORD h0 n0 v U'.heap L ∧ FrameEnd U o U' L ({ frames := 0, cells := 0, slots := 0, locals := 0 } : Room).cells ({ frames := 0, cells := 0, slots := 0, locals := 0 } : Room).slots) := by
  refine MetFree.of_bodySF (plainFor_of_name pn_4) hisR ?_
  intro p e s m args below meth c s₁ Bd hml0 hP hK
  obtain ⟨rfl, hZ, hh⟩ := hP
  have hx := Bd.exec
  have hby := Bd.bytes
  have hml : c.maxLocals = 8 := hml0
  have hown : s.vm.findClass "java/util/Arrays" = some m.cls := findClass_of_methodNamed Bd.named
  have hnm := (name_of_methodNamed Bd.named Bd.method).1
  have X0 : Stand p l e ({ frames := 0, cells := 0, slots := 0, locals := 0 } : Room) s m #[(.ref r_WORD), (.int 0), (.int 8), (.int x)] below meth c s₁ [] 0 0 := Stand.of_body Bd
  have e0 : s₁.heap = h0 := by rw [← hh, Bd.state]; rfl
  have N0 := Fr.nil n0
  have pre0 : ∀ t, Steps p.tables e below (s₁.setTop (mkF m 0 #[.val (.ref r_WORD), .val (.int 0), .val (.int 8), .val (.int x), .unset, .unset, .unset, .unset] [])) t → Steps p.tables e below (s₁.setTop (entryFrame m #[(.ref r_WORD), (.int 0), (.int 8), (.int x)] 8)) t := fun t k => castTop (by first | (simp [entryFrame, mkF, argsToLocals, Value.category]; done) | rfl) k
  obtain ⟨fs, hr, hrun, hended, hW, hsame⟩ := X0.leave (v := some (.int (-9))) (fun h => by rw [Bd.returns] at h; cases h)
  refine ⟨_, _, pre0 _ ?_, hrun, hended, _, _, rfl, ?_, ⟨_, rfl⟩, hW, hsame.mono (by decide) (by decide)⟩
  · show Steps p.tables e below (s₁.setTop (mkF m 0 #[.val (.ref r_WORD), .val (.int 0), .val (.int 8), .val (.int x), .unset, .unset, .unset, .unset] [])) _
    refine XS.iloadN X0.here hx rfl (hb hby d4_0) rfl ?_
    show Steps p.tables e below (s₁.setTop (mkF m 1 #[.val (.ref r_WORD), .val (.int 0), .val (.int 8), .val (.int x), .unset, .unset, .unset, .unset] [(.int 0)])) _
    refine XS.istore X0.here hx rfl (hb hby d4_1) rfl (l' := #[.val (.ref r_WORD), .val (.int 0), .val (.int 8), .val (.int x), .val (.int 0), .unset, .unset, .unset]) rfl ?_
    show Steps p.tables e below (s₁.setTop (mkF m 3 #[.val (.ref r_WORD), .val (.int 0), .val (.int 8), .val (.int x), .val (.int 0), .unset, .unset, .unset] [])) _
    refine XS.iloadN X0.here hx rfl (hb hby d4_3) rfl ?_
    show Steps p.tables e below (s₁.setTop (mkF m 4 #[.val (.ref r_WORD), .val (.int 0), .val (.int 8), .val (.int x), .val (.int 0), .unset, .unset, .unset] [(.int 8)])) _
    refine XS.iconst X0.here hx rfl (hb hby d4_4) ?_
    show Steps p.tables e below (s₁.setTop (mkF m 5 #[.val (.ref r_WORD), .val (.int 0), .val (.int 8), .val (.int x), .val (.int 0), .unset, .unset, .unset] [(.int 1), (.int 8)])) _
    refine XS.isub X0.here hx rfl (hb hby d4_5) rfl ?_
    show Steps p.tables e below (s₁.setTop (mkF m 6 #[.val (.ref r_WORD), .val (.int 0), .val (.int 8), .val (.int x), .val (.int 0), .unset, .unset, .unset] [(.int ((8 : Int32) - (1 : Int32)))])) _
    rw [(by decide : ((8 : Int32) - (1 : Int32)) = (7 : Int32))]
    show Steps p.tables e below (s₁.setTop (mkF m 6 #[.val (.ref r_WORD), .val (.int 0), .val (.int 8), .val (.int x), .val (.int 0), .unset, .unset, .unset] [(.int 7)])) _
    refine XS.istore X0.here hx rfl (hb hby d4_6) rfl (l' := #[.val (.ref r_WORD), .val (.int 0), .val (.int 8), .val (.int x), .val (.int 0), .val (.int 7), .unset, .unset]) rfl ?_
    show Steps p.tables e below (s₁.setTop (mkF m 8 #[.val (.ref r_WORD), .val (.int 0), .val (.int 8), .val (.int x), .val (.int 0), .val (.int 7), .unset, .unset] [])) _
    refine tnLu r_WORD (0 : Int32) (8 : Int32) x (0 : Int32) (7 : Int32) (3 : Int32) k_WORD (8 : Int32) [(.int 48), (.int 57), (.int 65), (.int 90), (.int 95), (.int 95), (.int 97), (.int 122)] (.int (0 : Int32)) (90 : Int32) (4 : Int32) X0 hx hZ hby e0 (by decide) (by decide) V_r_WORD ⟨by decide, by decide⟩ rfl (own_gt hlo_x (by decide)) (by decide) _ ?_
    show Steps p.tables e below (s₁.setTop (mkF m 8 #[.val (.ref r_WORD), .val (.int 0), .val (.int 8), .val (.int x), .val (.int 4), .val (.int 7), .val (.int 3), .val (.int 90)] [])) _
    refine tnLv r_WORD (0 : Int32) (8 : Int32) x (4 : Int32) (7 : Int32) (3 : Int32) (90 : Int32) (5 : Int32) k_WORD (8 : Int32) [(.int 48), (.int 57), (.int 65), (.int 90), (.int 95), (.int 95), (.int 97), (.int 122)] (.int (0 : Int32)) (95 : Int32) (6 : Int32) X0 hx hZ hby e0 (by decide) (by decide) V_r_WORD ⟨by decide, by decide⟩ rfl (own_gt hlo_x (by decide)) (by decide) _ ?_
    show Steps p.tables e below (s₁.setTop (mkF m 8 #[.val (.ref r_WORD), .val (.int 0), .val (.int 8), .val (.int x), .val (.int 6), .val (.int 7), .val (.int 5), .val (.int 95)] [])) _
    refine tnLv r_WORD (0 : Int32) (8 : Int32) x (6 : Int32) (7 : Int32) (5 : Int32) (95 : Int32) (6 : Int32) k_WORD (8 : Int32) [(.int 48), (.int 57), (.int 65), (.int 90), (.int 95), (.int 95), (.int 97), (.int 122)] (.int (0 : Int32)) (97 : Int32) (7 : Int32) X0 hx hZ hby e0 (by decide) (by decide) V_r_WORD ⟨by decide, by decide⟩ rfl (own_gt hlo_x (by decide)) (by decide) _ ?_
    show Steps p.tables e below (s₁.setTop (mkF m 8 #[.val (.ref r_WORD), .val (.int 0), .val (.int 8), .val (.int x), .val (.int 7), .val (.int 7), .val (.int 6), .val (.int 97)] [])) _
    refine tnLv r_WORD (0 : Int32) (8 : Int32) x (7 : Int32) (7 : Int32) (6 : Int32) (97 : Int32) (7 : Int32) k_WORD (8 : Int32) [(.int 48), (.int 57), (.int 65), (.int 90), (.int 95), (.int 95), (.int 97), (.int 122)] (.int (0 : Int32)) (122 : Int32) (8 : Int32) X0 hx hZ hby e0 (by decide) (by decide) V_r_WORD ⟨by decide, by decide⟩ rfl (own_gt hlo_x (by decide)) (by decide) _ ?_
    show Steps p.tables e below (s₁.setTop (mkF m 8 #[.val (.ref r_WORD), .val (.int 0), .val (.int 8), .val (.int x), .val (.int 8), .val (.int 7), .val (.int 7), .val (.int 122)] [])) _
    refine XS.iload X0.here hx rfl (hb hby d4_8) rfl ?_
    show Steps p.tables e below (s₁.setTop (mkF m 10 #[.val (.ref r_WORD), .val (.int 0), .val (.int 8), .val (.int x), .val (.int 8), .val (.int 7), .val (.int 7), .val (.int 122)] [(.int 8)])) _
    refine XS.iload X0.here hx rfl (hb hby d4_10) rfl ?_
    show Steps p.tables e below (s₁.setTop (mkF m 12 #[.val (.ref r_WORD), .val (.int 0), .val (.int 8), .val (.int x), .val (.int 8), .val (.int 7), .val (.int 7), .val (.int 122)] [(.int 7), (.int 8)])) _
    refine XS.icmpYes X0.here hx rfl (pc0 := 12) (pc' := 66) rfl (hb hby d4_12) rfl (tlt (by decide : (7 : Int32) < (8 : Int32))).2.2.1 (by decide) (by decide) ?_
    show Steps p.tables e below (s₁.setTop (mkF m 66 #[.val (.ref r_WORD), .val (.int 0), .val (.int 8), .val (.int x), .val (.int 8), .val (.int 7), .val (.int 7), .val (.int 122)] [])) _
    refine XS.iload X0.here hx rfl (hb hby d4_66) rfl ?_
    show Steps p.tables e below (s₁.setTop (mkF m 68 #[.val (.ref r_WORD), .val (.int 0), .val (.int 8), .val (.int x), .val (.int 8), .val (.int 7), .val (.int 7), .val (.int 122)] [(.int 8)])) _
    refine XS.iconst X0.here hx rfl (hb hby d4_68) ?_
    show Steps p.tables e below (s₁.setTop (mkF m 69 #[.val (.ref r_WORD), .val (.int 0), .val (.int 8), .val (.int x), .val (.int 8), .val (.int 7), .val (.int 7), .val (.int 122)] [(.int 1), (.int 8)])) _
    refine XS.iadd X0.here hx rfl (hb hby d4_69) rfl ?_
    show Steps p.tables e below (s₁.setTop (mkF m 70 #[.val (.ref r_WORD), .val (.int 0), .val (.int 8), .val (.int x), .val (.int 8), .val (.int 7), .val (.int 7), .val (.int 122)] [(.int ((8 : Int32) + (1 : Int32)))])) _
    rw [(by decide : ((8 : Int32) + (1 : Int32)) = (9 : Int32))]
    show Steps p.tables e below (s₁.setTop (mkF m 70 #[.val (.ref r_WORD), .val (.int 0), .val (.int 8), .val (.int x), .val (.int 8), .val (.int 7), .val (.int 7), .val (.int 122)] [(.int 9)])) _
    refine XS.ineg X0.here hx rfl (hb hby d4_70) rfl ?_
    show Steps p.tables e below (s₁.setTop (mkF m 71 #[.val (.ref r_WORD), .val (.int 0), .val (.int 8), .val (.int x), .val (.int 8), .val (.int 7), .val (.int 7), .val (.int 122)] [(.int (-(9 : Int32)))])) _
    rw [(by decide : (-(9 : Int32)) = (-9 : Int32))]
    show Steps p.tables e below (s₁.setTop (mkF m 71 #[.val (.ref r_WORD), .val (.int 0), .val (.int 8), .val (.int x), .val (.int 8), .val (.int 7), .val (.int 7), .val (.int 122)] [(.int (-9))])) _
    exact retI X0 hx Bd.returns (hb hby d4_71) hr
  · show Q4_r_WORD_0_8_x_122_None Z r_WORD x k_WORD h0 n0 _ s₁.heap _
    rw [e0]
    exact ⟨rfl, N0, rfl⟩
def Q3_r_WORD_x_122_None (Z : State) (r_WORD : Addr) (x : Int32) (k_WORD : ClassId) (h0 : Heap) (n0 : Nat) (v : Option Value) (h : Heap) (L : List Loc) : Prop := v = some (.int (-9)) ∧ Fr n0 L ∧ h = h0
set_option maxRecDepth 65536 in
set_option maxHeartbeats 40000000 in
theorem rm3_r_WORD_x_122_None (l : Launch) (Z : State) (a0 : Array Value) (hw : ∀ d ∈ tables_1, d.before a0 Z = true) (ws : List Jvm.Cond) (r_WORD : Addr) (x : Int32) (k_WORD : ClassId) (h0 : Heap) (n0 : Nat) (Z0 : n0 ≤ h0.size) (V_r_WORD : Arv Z h0 r_WORD k_WORD .int (8 : Int32) [(.int 48), (.int 57), (.int 65), (.int 90), (.int 95), (.int 95), (.int 97), (.int 122)] (.int (0 : Int32))) (hlo_x : (122 : Int32) < x) :
    MetFree l (⟨"java/util/Arrays", "binarySearch", "([II)I"⟩ : MethodName) (head1 (Jvm.Cond.code (⟨"java/util/Arrays", "binarySearch", "([II)I"⟩ : MethodName) jdk_65_method_57_code 2 (some .int) :: ws) ({ frames := 1, cells := 0, slots := 0, locals := 19 } : Room)) (fun a U => a = #[(.ref r_WORD), (.int x)] ∧ Z.Warmed39 U.vm ∧ U.heap = h0) (fun _ _ _ _ _ => True) (fun _ U o U' => ∃ v L, o = .returned v ∧ Q3_r_WORD_x_122_None Z r_WORD x k_WORD h0 n0 v U'.heap L ∧ FrameEnd U o U' L ({ frames := 1, cells := 0, slots := 0, locals := 19 } : Room).cells ({ frames := 1, cells := 0, slots := 0, locals := 19 } : Room).slots) := by
  refine MetFree.of_bodySF (plainFor_of_name pn_3) hisR ?_
  intro p e s m args below meth c s₁ Bd hml0 hP hK
  obtain ⟨rfl, hZ, hh⟩ := hP
  have hx := Bd.exec
  have hby := Bd.bytes
  have hml : c.maxLocals = 2 := hml0
  have hown : s.vm.findClass "java/util/Arrays" = some m.cls := findClass_of_methodNamed Bd.named
  have hnm := (name_of_methodNamed Bd.named Bd.method).1
  have X0 : Stand p l e ({ frames := 1, cells := 0, slots := 0, locals := 19 } : Room) s m #[(.ref r_WORD), (.int x)] below meth c s₁ [] 0 0 := Stand.of_body Bd
  have e0 : s₁.heap = h0 := by rw [← hh, Bd.state]; rfl
  have N0 := Fr.nil n0
  have pre0 : ∀ t, Steps p.tables e below (s₁.setTop (mkF m 0 #[.val (.ref r_WORD), .val (.int x)] [])) t → Steps p.tables e below (s₁.setTop (entryFrame m #[(.ref r_WORD), (.int x)] 2)) t := fun t k => castTop (by first | (simp [entryFrame, mkF, argsToLocals, Value.category]; done) | rfl) k
  obtain ⟨_, _, ⟨T1, L1, k1, n1⟩, -, X1, ⟨Lc1, hQ1, l1, y1, z1⟩, st1⟩ := Jvm.LawKit.callS X0 hx (y := (⟨"java/util/Arrays", "binarySearch0", "([IIII)I"⟩ : MethodName)) hown (mvT hZ (hw _ (List.mem_of_getElem? (i := 19) rfl))) (mvT hZ (hw _ (List.mem_of_getElem? (i := 20) rfl))) (mvT hZ (hw _ (List.mem_of_getElem? (i := 17) rfl))) (mvT hZ (hw _ (List.mem_of_getElem? (i := 21) rfl))) (by decide) (backOf (W := 0) (rm4_r_WORD_0_8_x_122_None l Z a0 hw [] r_WORD x k_WORD h0 n0 Z0 hlo_x V_r_WORD) hZ (hw _ (List.mem_of_getElem? (i := 21) rfl)) (hw _ (List.mem_of_getElem? (i := 17) rfl)) (by decide) (by decide)) (g := (mkF m 5 #[.val (.ref r_WORD), .val (.int x)] [(.int x), (.int 8), (.int 0), (.ref r_WORD)])) rfl (by rw [hml]; rfl) (argsL := [(.ref r_WORD), (.int 0), (.int 8), (.int x)]) (rest := []) (lenOf pd___IIII_I rfl) rfl (by show 2 * 0 + _ ≤ _; exact Nat.le_of_eq rfl) (hb hby d3_5) (fun _ _ => ⟨rfl, e0, (by decide : 0 + 0 ≤ _), (by decide : 0 + 0 ≤ _)⟩)
  dsimp only [Pt.U, Pt.locs, Pt.cells, Pt.slots] at X1 l1 y1 z1 st1 hQ1
  subst l1 y1 z1
  obtain ⟨rfl, N1q, e1⟩ := hQ1
  have N1 := Fr.app N0 N1q
  obtain ⟨fs, hr, hrun, hended, hW, hsame⟩ := X1.leave (v := some (.int (-9))) (fun h => by rw [Bd.returns] at h; cases h)
  refine ⟨_, _, pre0 _ ?_, hrun, hended, _, _, rfl, ?_, ⟨_, rfl⟩, hW, hsame.mono (by decide) (by decide)⟩
  · show Steps p.tables e below (s₁.setTop (mkF m 0 #[.val (.ref r_WORD), .val (.int x)] [])) _
    refine XS.aloadN X0.here hx rfl (hb hby d3_0) rfl rfl ?_
    show Steps p.tables e below (s₁.setTop (mkF m 1 #[.val (.ref r_WORD), .val (.int x)] [(.ref r_WORD)])) _
    refine XS.iconst X0.here hx rfl (hb hby d3_1) ?_
    show Steps p.tables e below (s₁.setTop (mkF m 2 #[.val (.ref r_WORD), .val (.int x)] [(.int 0), (.ref r_WORD)])) _
    refine XS.aloadN X0.here hx rfl (hb hby d3_2) rfl rfl ?_
    show Steps p.tables e below (s₁.setTop (mkF m 3 #[.val (.ref r_WORD), .val (.int x)] [(.ref r_WORD), (.int 0), (.ref r_WORD)])) _
    refine own_lenz X0 hx hZ e0 V_r_WORD (g := (mkF m 3 #[.val (.ref r_WORD), .val (.int x)] [(.ref r_WORD), (.int 0), (.ref r_WORD)])) rfl rfl (hb hby d3_3) _ ?_
    show Steps p.tables e below (s₁.setTop (mkF m 4 #[.val (.ref r_WORD), .val (.int x)] [(.int 8), (.int 0), (.ref r_WORD)])) _
    refine XS.iloadN X0.here hx rfl (hb hby d3_4) rfl ?_
    show Steps p.tables e below (s₁.setTop (mkF m 5 #[.val (.ref r_WORD), .val (.int x)] [(.int x), (.int 8), (.int 0), (.ref r_WORD)])) _
    refine st1 _ ?_
    show Steps p.tables e below (T1.setTop (mkF m 8 #[.val (.ref r_WORD), .val (.int x)] [(.int (-9))])) _
    exact retI X1 hx Bd.returns (hb hby d3_8) hr
  · show Q3_r_WORD_x_122_None Z r_WORD x k_WORD h0 n0 _ T1.heap _
    rw [e1]
    exact ⟨rfl, N1, rfl⟩
def Q2_w_WORD_x_122_None_all_WORD (Z : State) (w_WORD : Addr) (x : Int32) (r_WORD : Addr) (k_WORD : ClassId) (h0 : Heap) (n0 : Nat) (v : Option Value) (h : Heap) (L : List Loc) : Prop := v = some (.int (own_w x)) ∧ Fr n0 L ∧ h = h0
set_option maxRecDepth 65536 in
set_option maxHeartbeats 40000000 in
theorem rm2_w_WORD_x_122_None_all_WORD (l : Launch) (Z : State) (a0 : Array Value) (hw : ∀ d ∈ tables_1, d.before a0 Z = true) (ws : List Jvm.Cond) (w_WORD : Addr) (x : Int32) (r_WORD : Addr) (k_WORD : ClassId) (h0 : Heap) (n0 : Nat) (Z0 : n0 ≤ h0.size) (F_ranges_w_WORD : Fld Z h0 w_WORD "com/example/termwell/termwell/core/text/CodePointSet" "ranges" "[I" (.ref r_WORD)) (V_r_WORD : Arv Z h0 r_WORD k_WORD .int (8 : Int32) [(.int 48), (.int 57), (.int 65), (.int 90), (.int 95), (.int 95), (.int 97), (.int 122)] (.int (0 : Int32))) (hlo_x : (122 : Int32) < x) (hret : (own_w x) = (0 : Int32)) :
    MetFree l (⟨"com/example/termwell/termwell/core/text/CodePointSet", "contains", "(I)Z"⟩ : MethodName) (head1 (Jvm.Cond.code (⟨"com/example/termwell/termwell/core/text/CodePointSet", "contains", "(I)Z"⟩ : MethodName) prog_19_method_4_code 3 (some .boolean) :: ws) ({ frames := 2, cells := 0, slots := 0, locals := 32 } : Room)) (fun a U => a = #[(.ref w_WORD), (.int x)] ∧ Z.Warmed39 U.vm ∧ U.heap = h0) (fun _ _ _ _ _ => True) (fun _ U o U' => ∃ v L, o = .returned v ∧ Q2_w_WORD_x_122_None_all_WORD Z w_WORD x r_WORD k_WORD h0 n0 v U'.heap L ∧ FrameEnd U o U' L ({ frames := 2, cells := 0, slots := 0, locals := 32 } : Room).cells ({ frames := 2, cells := 0, slots := 0, locals := 32 } : Room).slots) := by
  refine MetFree.of_bodySF (plainFor_of_name pn_2) hisR ?_
  intro p e s m args below meth c s₁ Bd hml0 hP hK
  obtain ⟨rfl, hZ, hh⟩ := hP
  have hx := Bd.exec
  have hby := Bd.bytes
  have hml : c.maxLocals = 3 := hml0
  have hown : s.vm.findClass "com/example/termwell/termwell/core/text/CodePointSet" = some m.cls := findClass_of_methodNamed Bd.named
  have hnm := (name_of_methodNamed Bd.named Bd.method).1
  have X0 : Stand p l e ({ frames := 2, cells := 0, slots := 0, locals := 32 } : Room) s m #[(.ref w_WORD), (.int x)] below meth c s₁ [] 0 0 := Stand.of_body Bd
  have e0 : s₁.heap = h0 := by rw [← hh, Bd.state]; rfl
  have N0 := Fr.nil n0
  have pre0 : ∀ t, Steps p.tables e below (s₁.setTop (mkF m 0 #[.val (.ref w_WORD), .val (.int x), .unset] [])) t → Steps p.tables e below (s₁.setTop (entryFrame m #[(.ref w_WORD), (.int x)] 3)) t := fun t k => castTop (by first | (simp [entryFrame, mkF, argsToLocals, Value.category]; done) | rfl) k
  obtain ⟨T1, X1, e1, st1⟩ := getF X0 hx hZ hown (host := "") (Or.inl (hw _ (List.mem_of_getElem? (i := 13) rfl))) Via.refl e0 F_ranges_w_WORD (g := (mkF m 1 #[.val (.ref w_WORD), .val (.int x), .unset] [(.ref w_WORD)])) rfl rfl (hb hby d2_1)
  obtain ⟨_, _, ⟨T2, L2, k2, n2⟩, -, X2, ⟨Lc2, hQ2, l2, y2, z2⟩, st2⟩ := Jvm.LawKit.callS X1 hx (y := (⟨"java/util/Arrays", "binarySearch", "([II)I"⟩ : MethodName)) hown (mvT hZ (hw _ (List.mem_of_getElem? (i := 15) rfl))) (mvT hZ (hw _ (List.mem_of_getElem? (i := 16) rfl))) (mvT hZ (hw _ (List.mem_of_getElem? (i := 17) rfl))) (mvT hZ (hw _ (List.mem_of_getElem? (i := 18) rfl))) (by decide) (backOf (W := 0) (rm3_r_WORD_x_122_None l Z a0 hw [] r_WORD x k_WORD h0 n0 Z0 V_r_WORD hlo_x) hZ (hw _ (List.mem_of_getElem? (i := 18) rfl)) (hw _ (List.mem_of_getElem? (i := 17) rfl)) (by decide) (by decide)) (g := (mkF m 5 #[.val (.ref w_WORD), .val (.int x), .unset] [(.int x), (.ref r_WORD)])) rfl (by rw [hml]; rfl) (argsL := [(.ref r_WORD), (.int x)]) (rest := []) (lenOf pd___II_I rfl) rfl (by show 2 * 0 + _ ≤ _; exact Nat.le_of_eq rfl) (hb hby d2_5) (fun _ _ => ⟨rfl, e1, (by decide : 0 + 0 ≤ _), (by decide : 0 + 0 ≤ _)⟩)
  dsimp only [Pt.U, Pt.locs, Pt.cells, Pt.slots] at X2 l2 y2 z2 st2 hQ2
  subst l2 y2 z2
  obtain ⟨rfl, N2q, e2⟩ := hQ2
  have N2 := Fr.app N0 N2q
  obtain ⟨fs, hr, hrun, hended, hW, hsame⟩ := X2.leave (v := some (.int 0)) (fun h => by rw [Bd.returns] at h; cases h)
  refine ⟨_, _, pre0 _ ?_, hrun, hended, _, _, rfl, ?_, ⟨_, rfl⟩, hW, hsame.mono (by decide) (by decide)⟩
  · show Steps p.tables e below (s₁.setTop (mkF m 0 #[.val (.ref w_WORD), .val (.int x), .unset] [])) _
    refine XS.aloadN X0.here hx rfl (hb hby d2_0) rfl rfl ?_
    show Steps p.tables e below (s₁.setTop (mkF m 1 #[.val (.ref w_WORD), .val (.int x), .unset] [(.ref w_WORD)])) _
    refine st1 _ ?_
    show Steps p.tables e below (T1.setTop (mkF m 4 #[.val (.ref w_WORD), .val (.int x), .unset] [(.ref r_WORD)])) _
    refine XS.iloadN X1.here hx rfl (hb hby d2_4) rfl ?_
    show Steps p.tables e below (T1.setTop (mkF m 5 #[.val (.ref w_WORD), .val (.int x), .unset] [(.int x), (.ref r_WORD)])) _
    refine st2 _ ?_
    show Steps p.tables e below (T2.setTop (mkF m 8 #[.val (.ref w_WORD), .val (.int x), .unset] [(.int (-9))])) _
    refine XS.istoreN X2.here hx rfl (hb hby d2_8) rfl (l' := #[.val (.ref w_WORD), .val (.int x), .val (.int (-9))]) rfl ?_
    show Steps p.tables e below (T2.setTop (mkF m 9 #[.val (.ref w_WORD), .val (.int x), .val (.int (-9))] [])) _
    refine XS.iloadN X2.here hx rfl (hb hby d2_9) rfl ?_
    show Steps p.tables e below (T2.setTop (mkF m 10 #[.val (.ref w_WORD), .val (.int x), .val (.int (-9))] [(.int (-9))])) _
    refine XS.ifNo X2.here hx rfl (hb hby d2_10) rfl ((if0 _ _).trans (tlt (by decide : (-9 : Int32) < (0 : Int32))).2.1) ?_
    show Steps p.tables e below (T2.setTop (mkF m 13 #[.val (.ref w_WORD), .val (.int x), .val (.int (-9))] [])) _
    refine XS.iloadN X2.here hx rfl (hb hby d2_13) rfl ?_
    show Steps p.tables e below (T2.setTop (mkF m 14 #[.val (.ref w_WORD), .val (.int x), .val (.int (-9))] [(.int (-9))])) _
    refine XS.ineg X2.here hx rfl (hb hby d2_14) rfl ?_
    show Steps p.tables e below (T2.setTop (mkF m 15 #[.val (.ref w_WORD), .val (.int x), .val (.int (-9))] [(.int (-(-9 : Int32)))])) _
    rw [(by decide : (-(-9 : Int32)) = (9 : Int32))]
    show Steps p.tables e below (T2.setTop (mkF m 15 #[.val (.ref w_WORD), .val (.int x), .val (.int (-9))] [(.int 9)])) _
    refine XS.iconst X2.here hx rfl (hb hby d2_15) ?_
    show Steps p.tables e below (T2.setTop (mkF m 16 #[.val (.ref w_WORD), .val (.int x), .val (.int (-9))] [(.int 1), (.int 9)])) _
    refine XS.isub X2.here hx rfl (hb hby d2_16) rfl ?_
    show Steps p.tables e below (T2.setTop (mkF m 17 #[.val (.ref w_WORD), .val (.int x), .val (.int (-9))] [(.int ((9 : Int32) - (1 : Int32)))])) _
    rw [(by decide : ((9 : Int32) - (1 : Int32)) = (8 : Int32))]
    show Steps p.tables e below (T2.setTop (mkF m 17 #[.val (.ref w_WORD), .val (.int x), .val (.int (-9))] [(.int 8)])) _
    refine XS.iconst X2.here hx rfl (hb hby d2_17) ?_
    show Steps p.tables e below (T2.setTop (mkF m 18 #[.val (.ref w_WORD), .val (.int x), .val (.int (-9))] [(.int 2), (.int 8)])) _
    refine iremM X2 hx rfl (hb hby d2_18) rfl (by decide) ?_
    show Steps p.tables e below (T2.setTop (mkF m 19 #[.val (.ref w_WORD), .val (.int x), .val (.int (-9))] [(.int ((8 : Int32) % (2 : Int32)))])) _
    rw [(by decide : ((8 : Int32) % (2 : Int32)) = (0 : Int32))]
    show Steps p.tables e below (T2.setTop (mkF m 19 #[.val (.ref w_WORD), .val (.int x), .val (.int (-9))] [(.int 0)])) _
    refine XS.iconst X2.here hx rfl (hb hby d2_19) ?_
    show Steps p.tables e below (T2.setTop (mkF m 20 #[.val (.ref w_WORD), .val (.int x), .val (.int (-9))] [(.int 1), (.int 0)])) _
    refine XS.icmpYes X2.here hx rfl (pc0 := 20) (pc' := 27) rfl (hb hby d2_20) rfl (feq (by decide : ¬ ((0 : Int32) = (1 : Int32)))).2 (by decide) (by decide) ?_
    show Steps p.tables e below (T2.setTop (mkF m 27 #[.val (.ref w_WORD), .val (.int x), .val (.int (-9))] [])) _
    refine XS.iconst X2.here hx rfl (hb hby d2_27) ?_
    show Steps p.tables e below (T2.setTop (mkF m 28 #[.val (.ref w_WORD), .val (.int x), .val (.int (-9))] [(.int 0)])) _
    exact retN X2 hx (t := .boolean) Bd.returns (by simp) (hb hby d2_28) hr
  · show Q2_w_WORD_x_122_None_all_WORD Z w_WORD x r_WORD k_WORD h0 n0 _ T2.heap _
    rw [e2]
    exact ⟨(by rw [hret]), N2, rfl⟩
def Q2_all_WORD (Z : State) (x : Int32) (w_WORD : Addr) (r_WORD : Addr) (k_WORD : ClassId) (h0 : Heap) (n0 : Nat) (v : Option Value) (h : Heap) (L : List Loc) : Prop := v = some (.int (own_w x)) ∧ Fr n0 L ∧ h = h0
set_option maxRecDepth 65536 in
set_option maxHeartbeats 40000000 in
theorem rm2_all_WORD (l : Launch) (Z : State) (a0 : Array Value) (hw : ∀ d ∈ tables_1, d.before a0 Z = true) (ws : List Jvm.Cond) (x : Int32) (w_WORD : Addr) (r_WORD : Addr) (k_WORD : ClassId) (h0 : Heap) (n0 : Nat) (Z0 : n0 ≤ h0.size) (F_ranges_w_WORD : Fld Z h0 w_WORD "com/example/termwell/termwell/core/text/CodePointSet" "ranges" "[I" (.ref r_WORD)) (V_r_WORD : Arv Z h0 r_WORD k_WORD .int (8 : Int32) [(.int 48), (.int 57), (.int 65), (.int 90), (.int 95), (.int 95), (.int 97), (.int 122)] (.int (0 : Int32))) :
    MetFree l (⟨"com/example/termwell/termwell/core/text/CodePointSet", "contains", "(I)Z"⟩ : MethodName) (head1 (Jvm.Cond.code (⟨"com/example/termwell/termwell/core/text/CodePointSet", "contains", "(I)Z"⟩ : MethodName) prog_19_method_4_code 3 (some .boolean) :: ws) ({ frames := 2, cells := 0, slots := 0, locals := 32 } : Room)) (fun a U => a = #[(.ref w_WORD), (.int x)] ∧ Z.Warmed39 U.vm ∧ U.heap = h0) (fun _ _ _ _ _ => True) (fun _ U o U' => ∃ v L, o = .returned v ∧ Q2_all_WORD Z x w_WORD r_WORD k_WORD h0 n0 v U'.heap L ∧ FrameEnd U o U' L ({ frames := 2, cells := 0, slots := 0, locals := 32 } : Room).cells ({ frames := 2, cells := 0, slots := 0, locals := 32 } : Room).slots) := by
  rcases (by omega : (x.toInt < 48) ∨ (x.toInt = 48) ∨ (48 < x.toInt ∧ x.toInt < 57) ∨ (x.toInt = 57) ∨ (57 < x.toInt ∧ x.toInt < 65) ∨ (x.toInt = 65) ∨ (65 < x.toInt ∧ x.toInt < 90) ∨ (x.toInt = 90) ∨ (90 < x.toInt ∧ x.toInt < 95) ∨ (x.toInt = 95) ∨ (x.toInt = 96) ∨ (x.toInt = 97) ∨ (97 < x.toInt ∧ x.toInt < 122) ∨ (x.toInt = 122) ∨ (122 < x.toInt)) with h | h | h | h | h | h | h | h | h | h | h | h | h | h | h
  · exact rm2_w_WORD_x_None_48_all_WORD l Z a0 hw ws w_WORD x r_WORD k_WORD h0 n0 Z0 F_ranges_w_WORD V_r_WORD (own_ilt (by decide) h) (by unfold own_w; (repeat' split) <;> first | rfl | (exfalso; omega))
  · obtain rfl : x = (48 : Int32) := Int32.toInt_inj.mp (h.trans (by decide))
    exact rm2_w_WORD_48_all_WORD l Z a0 hw ws w_WORD r_WORD k_WORD h0 n0 Z0 F_ranges_w_WORD V_r_WORD (by decide)
  · exact rm2_w_WORD_x_48_57_all_WORD l Z a0 hw ws w_WORD x r_WORD k_WORD h0 n0 Z0 F_ranges_w_WORD V_r_WORD (own_ilt (by decide) h.2) (own_igt (by decide) h.1) (by unfold own_w; (repeat' split) <;> first | rfl | (exfalso; omega))
  · obtain rfl : x = (57 : Int32) := Int32.toInt_inj.mp (h.trans (by decide))
    exact rm2_w_WORD_57_all_WORD l Z a0 hw ws w_WORD r_WORD k_WORD h0 n0 Z0 F_ranges_w_WORD V_r_WORD (by decide)
  · exact rm2_w_WORD_x_57_65_all_WORD l Z a0 hw ws w_WORD x r_WORD k_WORD h0 n0 Z0 F_ranges_w_WORD V_r_WORD (own_ilt (by decide) h.2) (own_igt (by decide) h.1) (by unfold own_w; (repeat' split) <;> first | rfl | (exfalso; omega))
  · obtain rfl : x = (65 : Int32) := Int32.toInt_inj.mp (h.trans (by decide))
    exact rm2_w_WORD_65_all_WORD l Z a0 hw ws w_WORD r_WORD k_WORD h0 n0 Z0 F_ranges_w_WORD V_r_WORD (by decide)
  · exact rm2_w_WORD_x_65_90_all_WORD l Z a0 hw ws w_WORD x r_WORD k_WORD h0 n0 Z0 F_ranges_w_WORD V_r_WORD (own_ilt (by decide) h.2) (own_igt (by decide) h.1) (by unfold own_w; (repeat' split) <;> first | rfl | (exfalso; omega))
  · obtain rfl : x = (90 : Int32) := Int32.toInt_inj.mp (h.trans (by decide))
    exact rm2_w_WORD_90_all_WORD l Z a0 hw ws w_WORD r_WORD k_WORD h0 n0 Z0 F_ranges_w_WORD V_r_WORD (by decide)
  · exact rm2_w_WORD_x_90_95_all_WORD l Z a0 hw ws w_WORD x r_WORD k_WORD h0 n0 Z0 F_ranges_w_WORD V_r_WORD (own_igt (by decide) h.1) (own_ilt (by decide) h.2) (by unfold own_w; (repeat' split) <;> first | rfl | (exfalso; omega))
  · obtain rfl : x = (95 : Int32) := Int32.toInt_inj.mp (h.trans (by decide))
    exact rm2_w_WORD_95_all_WORD l Z a0 hw ws w_WORD r_WORD k_WORD h0 n0 Z0 F_ranges_w_WORD V_r_WORD (by decide)
  · obtain rfl : x = (96 : Int32) := Int32.toInt_inj.mp (h.trans (by decide))
    exact rm2_w_WORD_96_all_WORD l Z a0 hw ws w_WORD r_WORD k_WORD h0 n0 Z0 F_ranges_w_WORD V_r_WORD (by decide)
  · obtain rfl : x = (97 : Int32) := Int32.toInt_inj.mp (h.trans (by decide))
    exact rm2_w_WORD_97_all_WORD l Z a0 hw ws w_WORD r_WORD k_WORD h0 n0 Z0 F_ranges_w_WORD V_r_WORD (by decide)
  · exact rm2_w_WORD_x_97_122_all_WORD l Z a0 hw ws w_WORD x r_WORD k_WORD h0 n0 Z0 F_ranges_w_WORD V_r_WORD (own_igt (by decide) h.1) (own_ilt (by decide) h.2) (by unfold own_w; (repeat' split) <;> first | rfl | (exfalso; omega))
  · obtain rfl : x = (122 : Int32) := Int32.toInt_inj.mp (h.trans (by decide))
    exact rm2_w_WORD_122_all_WORD l Z a0 hw ws w_WORD r_WORD k_WORD h0 n0 Z0 F_ranges_w_WORD V_r_WORD (by decide)
  · exact rm2_w_WORD_x_122_None_all_WORD l Z a0 hw ws w_WORD x r_WORD k_WORD h0 n0 Z0 F_ranges_w_WORD V_r_WORD (own_igt (by decide) h) (by unfold own_w; (repeat' split) <;> first | rfl | (exfalso; omega))
def Q5_2_x_None_48_all_WORD (Z : State) (x : Int32) (h0 : Heap) (n0 : Nat) (v : Option Value) (h : Heap) (L : List Loc) : Prop := v = some (.int (own_w x)) ∧ Fr n0 L ∧ h = h0
set_option maxRecDepth 65536 in
set_option maxHeartbeats 40000000 in
theorem rm5_2_x_None_48_all_WORD (l : Launch) (Z : State) (a0 : Array Value) (hw : ∀ d ∈ tables_1, d.before a0 Z = true) (ws : List Jvm.Cond) (x : Int32) (h0 : Heap) (n0 : Nat) (Z0 : n0 ≤ h0.size) (hhi_x : x < (48 : Int32)) (hret : (own_w x) = (0 : Int32)) :
    MetFree l (⟨"com/example/termwell/termwell/core/text/CharClassesPerlPinLaw", "expected", "(II)Z"⟩ : MethodName) (head1 (Jvm.Cond.code (⟨"com/example/termwell/termwell/core/text/CharClassesPerlPinLaw", "expected", "(II)Z"⟩ : MethodName) method_2_code 2 (some .boolean) :: ws) ({ frames := 0, cells := 0, slots := 0, locals := 0 } : Room)) (fun a U => a = #[(.int 2), (.int x)] ∧ Z.Warmed39 U.vm ∧ U.heap = h0) (fun _ _ _ _ _ => True) (fun _ U o U' => ∃ v L, o = .returned v ∧ Q5_2_x_None_48_all_WORD Z x h0 n0 v U'.heap L ∧ FrameEnd U o U' L ({ frames := 0, cells := 0, slots := 0, locals := 0 } : Room).cells ({ frames := 0, cells := 0, slots := 0, locals := 0 } : Room).slots) := by
  refine MetFree.of_bodySF (plainFor_of_name pn_5) hisR ?_
  intro p e s m args below meth c s₁ Bd hml0 hP hK
  obtain ⟨rfl, hZ, hh⟩ := hP
  have hx := Bd.exec
  have hby := Bd.bytes
  have hml : c.maxLocals = 2 := hml0
  have hown : s.vm.findClass "com/example/termwell/termwell/core/text/CharClassesPerlPinLaw" = some m.cls := findClass_of_methodNamed Bd.named
  have hnm := (name_of_methodNamed Bd.named Bd.method).1
  have X0 : Stand p l e ({ frames := 0, cells := 0, slots := 0, locals := 0 } : Room) s m #[(.int 2), (.int x)] below meth c s₁ [] 0 0 := Stand.of_body Bd
  have e0 : s₁.heap = h0 := by rw [← hh, Bd.state]; rfl
  have N0 := Fr.nil n0
  have pre0 : ∀ t, Steps p.tables e below (s₁.setTop (mkF m 0 #[.val (.int 2), .val (.int x)] [])) t → Steps p.tables e below (s₁.setTop (entryFrame m #[(.int 2), (.int x)] 2)) t := fun t k => castTop (by first | (simp [entryFrame, mkF, argsToLocals, Value.category]; done) | rfl) k
  obtain ⟨fs, hr, hrun, hended, hW, hsame⟩ := X0.leave (v := some (.int 0)) (fun h => by rw [Bd.returns] at h; cases h)
  refine ⟨_, _, pre0 _ ?_, hrun, hended, _, _, rfl, ?_, ⟨_, rfl⟩, hW, hsame.mono (by decide) (by decide)⟩
  · show Steps p.tables e below (s₁.setTop (mkF m 0 #[.val (.int 2), .val (.int x)] [])) _
    refine XS.iloadN X0.here hx rfl (hb hby d5_0) rfl ?_
    show Steps p.tables e below (s₁.setTop (mkF m 1 #[.val (.int 2), .val (.int x)] [(.int 2)])) _
    refine XS.ifYes X0.here hx rfl (pc0 := 1) (pc' := 22) rfl (hb hby d5_1) rfl ((if0 _ _).trans (feq (by decide : ¬ ((2 : Int32) = (0 : Int32)))).2) (by decide) (by decide) ?_
    show Steps p.tables e below (s₁.setTop (mkF m 22 #[.val (.int 2), .val (.int x)] [])) _
    refine XS.iloadN X0.here hx rfl (hb hby d5_22) rfl ?_
    show Steps p.tables e below (s₁.setTop (mkF m 23 #[.val (.int 2), .val (.int x)] [(.int 2)])) _
    refine XS.iconst X0.here hx rfl (hb hby d5_23) ?_
    show Steps p.tables e below (s₁.setTop (mkF m 24 #[.val (.int 2), .val (.int x)] [(.int 1), (.int 2)])) _
    refine XS.icmpYes X0.here hx rfl (pc0 := 24) (pc' := 63) rfl (hb hby d5_24) rfl (feq (by decide : ¬ ((2 : Int32) = (1 : Int32)))).2 (by decide) (by decide) ?_
    show Steps p.tables e below (s₁.setTop (mkF m 63 #[.val (.int 2), .val (.int x)] [])) _
    refine XS.iloadN X0.here hx rfl (hb hby d5_63) rfl ?_
    show Steps p.tables e below (s₁.setTop (mkF m 64 #[.val (.int 2), .val (.int x)] [(.int x)])) _
    refine XS.bipush X0.here hx rfl (hb hby d5_64) ?_
    show Steps p.tables e below (s₁.setTop (mkF m 66 #[.val (.int 2), .val (.int x)] [(.int 48), (.int x)])) _
    refine XS.icmpYes X0.here hx rfl (pc0 := 66) (pc' := 75) rfl (hb hby d5_66) rfl (tlt (own_lt hhi_x (by decide) : x < (48 : Int32))).1 (by decide) (by decide) ?_
    show Steps p.tables e below (s₁.setTop (mkF m 75 #[.val (.int 2), .val (.int x)] [])) _
    refine XS.iloadN X0.here hx rfl (hb hby d5_75) rfl ?_
    show Steps p.tables e below (s₁.setTop (mkF m 76 #[.val (.int 2), .val (.int x)] [(.int x)])) _
    refine XS.bipush X0.here hx rfl (hb hby d5_76) ?_
    show Steps p.tables e below (s₁.setTop (mkF m 78 #[.val (.int 2), .val (.int x)] [(.int 65), (.int x)])) _
    refine XS.icmpYes X0.here hx rfl (pc0 := 78) (pc' := 87) rfl (hb hby d5_78) rfl (tlt (own_lt hhi_x (by decide) : x < (65 : Int32))).1 (by decide) (by decide) ?_
    show Steps p.tables e below (s₁.setTop (mkF m 87 #[.val (.int 2), .val (.int x)] [])) _
    refine XS.iloadN X0.here hx rfl (hb hby d5_87) rfl ?_
    show Steps p.tables e below (s₁.setTop (mkF m 88 #[.val (.int 2), .val (.int x)] [(.int x)])) _
    refine XS.bipush X0.here hx rfl (hb hby d5_88) ?_
    show Steps p.tables e below (s₁.setTop (mkF m 90 #[.val (.int 2), .val (.int x)] [(.int 95), (.int x)])) _
    refine XS.icmpNo X0.here hx rfl (hb hby d5_90) rfl (feq (own_nehi hhi_x (by decide) : ¬ (x = (95 : Int32)))).1 ?_
    show Steps p.tables e below (s₁.setTop (mkF m 93 #[.val (.int 2), .val (.int x)] [])) _
    refine XS.iloadN X0.here hx rfl (hb hby d5_93) rfl ?_
    show Steps p.tables e below (s₁.setTop (mkF m 94 #[.val (.int 2), .val (.int x)] [(.int x)])) _
    refine XS.bipush X0.here hx rfl (hb hby d5_94) ?_
    show Steps p.tables e below (s₁.setTop (mkF m 96 #[.val (.int 2), .val (.int x)] [(.int 97), (.int x)])) _
    refine XS.icmpYes X0.here hx rfl (pc0 := 96) (pc' := 109) rfl (hb hby d5_96) rfl (tlt (own_lt hhi_x (by decide) : x < (97 : Int32))).1 (by decide) (by decide) ?_
    show Steps p.tables e below (s₁.setTop (mkF m 109 #[.val (.int 2), .val (.int x)] [])) _
    refine XS.iconst X0.here hx rfl (hb hby d5_109) ?_
    show Steps p.tables e below (s₁.setTop (mkF m 110 #[.val (.int 2), .val (.int x)] [(.int 0)])) _
    exact retN X0 hx (t := .boolean) Bd.returns (by simp) (hb hby d5_110) hr
  · show Q5_2_x_None_48_all_WORD Z x h0 n0 _ s₁.heap _
    rw [e0]
    exact ⟨(by rw [hret]), N0, rfl⟩
def Q5_2_x_47_58_all_WORD (Z : State) (x : Int32) (h0 : Heap) (n0 : Nat) (v : Option Value) (h : Heap) (L : List Loc) : Prop := v = some (.int (own_w x)) ∧ Fr n0 L ∧ h = h0
set_option maxRecDepth 65536 in
set_option maxHeartbeats 40000000 in
theorem rm5_2_x_47_58_all_WORD (l : Launch) (Z : State) (a0 : Array Value) (hw : ∀ d ∈ tables_1, d.before a0 Z = true) (ws : List Jvm.Cond) (x : Int32) (h0 : Heap) (n0 : Nat) (Z0 : n0 ≤ h0.size) (hlo_x : (47 : Int32) < x) (hhi_x : x < (58 : Int32)) (hret : (own_w x) = (1 : Int32)) :
    MetFree l (⟨"com/example/termwell/termwell/core/text/CharClassesPerlPinLaw", "expected", "(II)Z"⟩ : MethodName) (head1 (Jvm.Cond.code (⟨"com/example/termwell/termwell/core/text/CharClassesPerlPinLaw", "expected", "(II)Z"⟩ : MethodName) method_2_code 2 (some .boolean) :: ws) ({ frames := 0, cells := 0, slots := 0, locals := 0 } : Room)) (fun a U => a = #[(.int 2), (.int x)] ∧ Z.Warmed39 U.vm ∧ U.heap = h0) (fun _ _ _ _ _ => True) (fun _ U o U' => ∃ v L, o = .returned v ∧ Q5_2_x_47_58_all_WORD Z x h0 n0 v U'.heap L ∧ FrameEnd U o U' L ({ frames := 0, cells := 0, slots := 0, locals := 0 } : Room).cells ({ frames := 0, cells := 0, slots := 0, locals := 0 } : Room).slots) := by
  refine MetFree.of_bodySF (plainFor_of_name pn_5) hisR ?_
  intro p e s m args below meth c s₁ Bd hml0 hP hK
  obtain ⟨rfl, hZ, hh⟩ := hP
  have hx := Bd.exec
  have hby := Bd.bytes
  have hml : c.maxLocals = 2 := hml0
  have hown : s.vm.findClass "com/example/termwell/termwell/core/text/CharClassesPerlPinLaw" = some m.cls := findClass_of_methodNamed Bd.named
  have hnm := (name_of_methodNamed Bd.named Bd.method).1
  have X0 : Stand p l e ({ frames := 0, cells := 0, slots := 0, locals := 0 } : Room) s m #[(.int 2), (.int x)] below meth c s₁ [] 0 0 := Stand.of_body Bd
  have e0 : s₁.heap = h0 := by rw [← hh, Bd.state]; rfl
  have N0 := Fr.nil n0
  have pre0 : ∀ t, Steps p.tables e below (s₁.setTop (mkF m 0 #[.val (.int 2), .val (.int x)] [])) t → Steps p.tables e below (s₁.setTop (entryFrame m #[(.int 2), (.int x)] 2)) t := fun t k => castTop (by first | (simp [entryFrame, mkF, argsToLocals, Value.category]; done) | rfl) k
  obtain ⟨fs, hr, hrun, hended, hW, hsame⟩ := X0.leave (v := some (.int 1)) (fun h => by rw [Bd.returns] at h; cases h)
  refine ⟨_, _, pre0 _ ?_, hrun, hended, _, _, rfl, ?_, ⟨_, rfl⟩, hW, hsame.mono (by decide) (by decide)⟩
  · show Steps p.tables e below (s₁.setTop (mkF m 0 #[.val (.int 2), .val (.int x)] [])) _
    refine XS.iloadN X0.here hx rfl (hb hby d5_0) rfl ?_
    show Steps p.tables e below (s₁.setTop (mkF m 1 #[.val (.int 2), .val (.int x)] [(.int 2)])) _
    refine XS.ifYes X0.here hx rfl (pc0 := 1) (pc' := 22) rfl (hb hby d5_1) rfl ((if0 _ _).trans (feq (by decide : ¬ ((2 : Int32) = (0 : Int32)))).2) (by decide) (by decide) ?_
    show Steps p.tables e below (s₁.setTop (mkF m 22 #[.val (.int 2), .val (.int x)] [])) _
    refine XS.iloadN X0.here hx rfl (hb hby d5_22) rfl ?_
    show Steps p.tables e below (s₁.setTop (mkF m 23 #[.val (.int 2), .val (.int x)] [(.int 2)])) _
    refine XS.iconst X0.here hx rfl (hb hby d5_23) ?_
    show Steps p.tables e below (s₁.setTop (mkF m 24 #[.val (.int 2), .val (.int x)] [(.int 1), (.int 2)])) _
    refine XS.icmpYes X0.here hx rfl (pc0 := 24) (pc' := 63) rfl (hb hby d5_24) rfl (feq (by decide : ¬ ((2 : Int32) = (1 : Int32)))).2 (by decide) (by decide) ?_
    show Steps p.tables e below (s₁.setTop (mkF m 63 #[.val (.int 2), .val (.int x)] [])) _
    refine XS.iloadN X0.here hx rfl (hb hby d5_63) rfl ?_
    show Steps p.tables e below (s₁.setTop (mkF m 64 #[.val (.int 2), .val (.int x)] [(.int x)])) _
    refine XS.bipush X0.here hx rfl (hb hby d5_64) ?_
    show Steps p.tables e below (s₁.setTop (mkF m 66 #[.val (.int 2), .val (.int x)] [(.int 48), (.int x)])) _
    refine XS.icmpNo X0.here hx rfl (hb hby d5_66) rfl (flt (own_nlt hlo_x (by decide) : ¬ (x < (48 : Int32)))).1 ?_
    show Steps p.tables e below (s₁.setTop (mkF m 69 #[.val (.int 2), .val (.int x)] [])) _
    refine XS.iloadN X0.here hx rfl (hb hby d5_69) rfl ?_
    show Steps p.tables e below (s₁.setTop (mkF m 70 #[.val (.int 2), .val (.int x)] [(.int x)])) _
    refine XS.bipush X0.here hx rfl (hb hby d5_70) ?_
    show Steps p.tables e below (s₁.setTop (mkF m 72 #[.val (.int 2), .val (.int x)] [(.int 57), (.int x)])) _
    refine XS.icmpYes X0.here hx rfl (pc0 := 72) (pc' := 105) rfl (hb hby d5_72) rfl (flt (own_ngt hhi_x (by decide) : ¬ ((57 : Int32) < x))).2.2.2 (by decide) (by decide) ?_
    show Steps p.tables e below (s₁.setTop (mkF m 105 #[.val (.int 2), .val (.int x)] [])) _
    refine XS.iconst X0.here hx rfl (hb hby d5_105) ?_
    show Steps p.tables e below (s₁.setTop (mkF m 106 #[.val (.int 2), .val (.int x)] [(.int 1)])) _
    refine XS.goto X0.here hx rfl (pc0 := 106) (pc' := 110) rfl (hb hby d5_106) (by decide) (by decide) ?_
    show Steps p.tables e below (s₁.setTop (mkF m 110 #[.val (.int 2), .val (.int x)] [(.int 1)])) _
    exact retN X0 hx (t := .boolean) Bd.returns (by simp) (hb hby d5_110) hr
  · show Q5_2_x_47_58_all_WORD Z x h0 n0 _ s₁.heap _
    rw [e0]
    exact ⟨(by rw [hret]), N0, rfl⟩
def Q5_2_x_57_65_all_WORD (Z : State) (x : Int32) (h0 : Heap) (n0 : Nat) (v : Option Value) (h : Heap) (L : List Loc) : Prop := v = some (.int (own_w x)) ∧ Fr n0 L ∧ h = h0
set_option maxRecDepth 65536 in
set_option maxHeartbeats 40000000 in
theorem rm5_2_x_57_65_all_WORD (l : Launch) (Z : State) (a0 : Array Value) (hw : ∀ d ∈ tables_1, d.before a0 Z = true) (ws : List Jvm.Cond) (x : Int32) (h0 : Heap) (n0 : Nat) (Z0 : n0 ≤ h0.size) (hlo_x : (57 : Int32) < x) (hhi_x : x < (65 : Int32)) (hret : (own_w x) = (0 : Int32)) :
    MetFree l (⟨"com/example/termwell/termwell/core/text/CharClassesPerlPinLaw", "expected", "(II)Z"⟩ : MethodName) (head1 (Jvm.Cond.code (⟨"com/example/termwell/termwell/core/text/CharClassesPerlPinLaw", "expected", "(II)Z"⟩ : MethodName) method_2_code 2 (some .boolean) :: ws) ({ frames := 0, cells := 0, slots := 0, locals := 0 } : Room)) (fun a U => a = #[(.int 2), (.int x)] ∧ Z.Warmed39 U.vm ∧ U.heap = h0) (fun _ _ _ _ _ => True) (fun _ U o U' => ∃ v L, o = .returned v ∧ Q5_2_x_57_65_all_WORD Z x h0 n0 v U'.heap L ∧ FrameEnd U o U' L ({ frames := 0, cells := 0, slots := 0, locals := 0 } : Room).cells ({ frames := 0, cells := 0, slots := 0, locals := 0 } : Room).slots) := by
  refine MetFree.of_bodySF (plainFor_of_name pn_5) hisR ?_
  intro p e s m args below meth c s₁ Bd hml0 hP hK
  obtain ⟨rfl, hZ, hh⟩ := hP
  have hx := Bd.exec
  have hby := Bd.bytes
  have hml : c.maxLocals = 2 := hml0
  have hown : s.vm.findClass "com/example/termwell/termwell/core/text/CharClassesPerlPinLaw" = some m.cls := findClass_of_methodNamed Bd.named
  have hnm := (name_of_methodNamed Bd.named Bd.method).1
  have X0 : Stand p l e ({ frames := 0, cells := 0, slots := 0, locals := 0 } : Room) s m #[(.int 2), (.int x)] below meth c s₁ [] 0 0 := Stand.of_body Bd
  have e0 : s₁.heap = h0 := by rw [← hh, Bd.state]; rfl
  have N0 := Fr.nil n0
  have pre0 : ∀ t, Steps p.tables e below (s₁.setTop (mkF m 0 #[.val (.int 2), .val (.int x)] [])) t → Steps p.tables e below (s₁.setTop (entryFrame m #[(.int 2), (.int x)] 2)) t := fun t k => castTop (by first | (simp [entryFrame, mkF, argsToLocals, Value.category]; done) | rfl) k
  obtain ⟨fs, hr, hrun, hended, hW, hsame⟩ := X0.leave (v := some (.int 0)) (fun h => by rw [Bd.returns] at h; cases h)
  refine ⟨_, _, pre0 _ ?_, hrun, hended, _, _, rfl, ?_, ⟨_, rfl⟩, hW, hsame.mono (by decide) (by decide)⟩
  · show Steps p.tables e below (s₁.setTop (mkF m 0 #[.val (.int 2), .val (.int x)] [])) _
    refine XS.iloadN X0.here hx rfl (hb hby d5_0) rfl ?_
    show Steps p.tables e below (s₁.setTop (mkF m 1 #[.val (.int 2), .val (.int x)] [(.int 2)])) _
    refine XS.ifYes X0.here hx rfl (pc0 := 1) (pc' := 22) rfl (hb hby d5_1) rfl ((if0 _ _).trans (feq (by decide : ¬ ((2 : Int32) = (0 : Int32)))).2) (by decide) (by decide) ?_
    show Steps p.tables e below (s₁.setTop (mkF m 22 #[.val (.int 2), .val (.int x)] [])) _
    refine XS.iloadN X0.here hx rfl (hb hby d5_22) rfl ?_
    show Steps p.tables e below (s₁.setTop (mkF m 23 #[.val (.int 2), .val (.int x)] [(.int 2)])) _
    refine XS.iconst X0.here hx rfl (hb hby d5_23) ?_
    show Steps p.tables e below (s₁.setTop (mkF m 24 #[.val (.int 2), .val (.int x)] [(.int 1), (.int 2)])) _
    refine XS.icmpYes X0.here hx rfl (pc0 := 24) (pc' := 63) rfl (hb hby d5_24) rfl (feq (by decide : ¬ ((2 : Int32) = (1 : Int32)))).2 (by decide) (by decide) ?_
    show Steps p.tables e below (s₁.setTop (mkF m 63 #[.val (.int 2), .val (.int x)] [])) _
    refine XS.iloadN X0.here hx rfl (hb hby d5_63) rfl ?_
    show Steps p.tables e below (s₁.setTop (mkF m 64 #[.val (.int 2), .val (.int x)] [(.int x)])) _
    refine XS.bipush X0.here hx rfl (hb hby d5_64) ?_
    show Steps p.tables e below (s₁.setTop (mkF m 66 #[.val (.int 2), .val (.int x)] [(.int 48), (.int x)])) _
    refine XS.icmpNo X0.here hx rfl (hb hby d5_66) rfl (flt (own_nlt hlo_x (by decide) : ¬ (x < (48 : Int32)))).1 ?_
    show Steps p.tables e below (s₁.setTop (mkF m 69 #[.val (.int 2), .val (.int x)] [])) _
    refine XS.iloadN X0.here hx rfl (hb hby d5_69) rfl ?_
    show Steps p.tables e below (s₁.setTop (mkF m 70 #[.val (.int 2), .val (.int x)] [(.int x)])) _
    refine XS.bipush X0.here hx rfl (hb hby d5_70) ?_
    show Steps p.tables e below (s₁.setTop (mkF m 72 #[.val (.int 2), .val (.int x)] [(.int 57), (.int x)])) _
    refine XS.icmpNo X0.here hx rfl (hb hby d5_72) rfl (tlt (own_gt hlo_x (by decide) : (57 : Int32) < x)).2.2.2 ?_
    show Steps p.tables e below (s₁.setTop (mkF m 75 #[.val (.int 2), .val (.int x)] [])) _
    refine XS.iloadN X0.here hx rfl (hb hby d5_75) rfl ?_
    show Steps p.tables e below (s₁.setTop (mkF m 76 #[.val (.int 2), .val (.int x)] [(.int x)])) _
    refine XS.bipush X0.here hx rfl (hb hby d5_76) ?_
    show Steps p.tables e below (s₁.setTop (mkF m 78 #[.val (.int 2), .val (.int x)] [(.int 65), (.int x)])) _
    refine XS.icmpYes X0.here hx rfl (pc0 := 78) (pc' := 87) rfl (hb hby d5_78) rfl (tlt (own_lt hhi_x (by decide) : x < (65 : Int32))).1 (by decide) (by decide) ?_
    show Steps p.tables e below (s₁.setTop (mkF m 87 #[.val (.int 2), .val (.int x)] [])) _
    refine XS.iloadN X0.here hx rfl (hb hby d5_87) rfl ?_
    show Steps p.tables e below (s₁.setTop (mkF m 88 #[.val (.int 2), .val (.int x)] [(.int x)])) _
    refine XS.bipush X0.here hx rfl (hb hby d5_88) ?_
    show Steps p.tables e below (s₁.setTop (mkF m 90 #[.val (.int 2), .val (.int x)] [(.int 95), (.int x)])) _
    refine XS.icmpNo X0.here hx rfl (hb hby d5_90) rfl (feq (own_nehi hhi_x (by decide) : ¬ (x = (95 : Int32)))).1 ?_
    show Steps p.tables e below (s₁.setTop (mkF m 93 #[.val (.int 2), .val (.int x)] [])) _
    refine XS.iloadN X0.here hx rfl (hb hby d5_93) rfl ?_
    show Steps p.tables e below (s₁.setTop (mkF m 94 #[.val (.int 2), .val (.int x)] [(.int x)])) _
    refine XS.bipush X0.here hx rfl (hb hby d5_94) ?_
    show Steps p.tables e below (s₁.setTop (mkF m 96 #[.val (.int 2), .val (.int x)] [(.int 97), (.int x)])) _
    refine XS.icmpYes X0.here hx rfl (pc0 := 96) (pc' := 109) rfl (hb hby d5_96) rfl (tlt (own_lt hhi_x (by decide) : x < (97 : Int32))).1 (by decide) (by decide) ?_
    show Steps p.tables e below (s₁.setTop (mkF m 109 #[.val (.int 2), .val (.int x)] [])) _
    refine XS.iconst X0.here hx rfl (hb hby d5_109) ?_
    show Steps p.tables e below (s₁.setTop (mkF m 110 #[.val (.int 2), .val (.int x)] [(.int 0)])) _
    exact retN X0 hx (t := .boolean) Bd.returns (by simp) (hb hby d5_110) hr
  · show Q5_2_x_57_65_all_WORD Z x h0 n0 _ s₁.heap _
    rw [e0]
    exact ⟨(by rw [hret]), N0, rfl⟩
def Q5_2_x_64_91_all_WORD (Z : State) (x : Int32) (h0 : Heap) (n0 : Nat) (v : Option Value) (h : Heap) (L : List Loc) : Prop := v = some (.int (own_w x)) ∧ Fr n0 L ∧ h = h0
set_option maxRecDepth 65536 in
set_option maxHeartbeats 40000000 in
theorem rm5_2_x_64_91_all_WORD (l : Launch) (Z : State) (a0 : Array Value) (hw : ∀ d ∈ tables_1, d.before a0 Z = true) (ws : List Jvm.Cond) (x : Int32) (h0 : Heap) (n0 : Nat) (Z0 : n0 ≤ h0.size) (hlo_x : (64 : Int32) < x) (hhi_x : x < (91 : Int32)) (hret : (own_w x) = (1 : Int32)) :
    MetFree l (⟨"com/example/termwell/termwell/core/text/CharClassesPerlPinLaw", "expected", "(II)Z"⟩ : MethodName) (head1 (Jvm.Cond.code (⟨"com/example/termwell/termwell/core/text/CharClassesPerlPinLaw", "expected", "(II)Z"⟩ : MethodName) method_2_code 2 (some .boolean) :: ws) ({ frames := 0, cells := 0, slots := 0, locals := 0 } : Room)) (fun a U => a = #[(.int 2), (.int x)] ∧ Z.Warmed39 U.vm ∧ U.heap = h0) (fun _ _ _ _ _ => True) (fun _ U o U' => ∃ v L, o = .returned v ∧ Q5_2_x_64_91_all_WORD Z x h0 n0 v U'.heap L ∧ FrameEnd U o U' L ({ frames := 0, cells := 0, slots := 0, locals := 0 } : Room).cells ({ frames := 0, cells := 0, slots := 0, locals := 0 } : Room).slots) := by
  refine MetFree.of_bodySF (plainFor_of_name pn_5) hisR ?_
  intro p e s m args below meth c s₁ Bd hml0 hP hK
  obtain ⟨rfl, hZ, hh⟩ := hP
  have hx := Bd.exec
  have hby := Bd.bytes
  have hml : c.maxLocals = 2 := hml0
  have hown : s.vm.findClass "com/example/termwell/termwell/core/text/CharClassesPerlPinLaw" = some m.cls := findClass_of_methodNamed Bd.named
  have hnm := (name_of_methodNamed Bd.named Bd.method).1
  have X0 : Stand p l e ({ frames := 0, cells := 0, slots := 0, locals := 0 } : Room) s m #[(.int 2), (.int x)] below meth c s₁ [] 0 0 := Stand.of_body Bd
  have e0 : s₁.heap = h0 := by rw [← hh, Bd.state]; rfl
  have N0 := Fr.nil n0
  have pre0 : ∀ t, Steps p.tables e below (s₁.setTop (mkF m 0 #[.val (.int 2), .val (.int x)] [])) t → Steps p.tables e below (s₁.setTop (entryFrame m #[(.int 2), (.int x)] 2)) t := fun t k => castTop (by first | (simp [entryFrame, mkF, argsToLocals, Value.category]; done) | rfl) k
  obtain ⟨fs, hr, hrun, hended, hW, hsame⟩ := X0.leave (v := some (.int 1)) (fun h => by rw [Bd.returns] at h; cases h)
  refine ⟨_, _, pre0 _ ?_, hrun, hended, _, _, rfl, ?_, ⟨_, rfl⟩, hW, hsame.mono (by decide) (by decide)⟩
  · show Steps p.tables e below (s₁.setTop (mkF m 0 #[.val (.int 2), .val (.int x)] [])) _
    refine XS.iloadN X0.here hx rfl (hb hby d5_0) rfl ?_
    show Steps p.tables e below (s₁.setTop (mkF m 1 #[.val (.int 2), .val (.int x)] [(.int 2)])) _
    refine XS.ifYes X0.here hx rfl (pc0 := 1) (pc' := 22) rfl (hb hby d5_1) rfl ((if0 _ _).trans (feq (by decide : ¬ ((2 : Int32) = (0 : Int32)))).2) (by decide) (by decide) ?_
    show Steps p.tables e below (s₁.setTop (mkF m 22 #[.val (.int 2), .val (.int x)] [])) _
    refine XS.iloadN X0.here hx rfl (hb hby d5_22) rfl ?_
    show Steps p.tables e below (s₁.setTop (mkF m 23 #[.val (.int 2), .val (.int x)] [(.int 2)])) _
    refine XS.iconst X0.here hx rfl (hb hby d5_23) ?_
    show Steps p.tables e below (s₁.setTop (mkF m 24 #[.val (.int 2), .val (.int x)] [(.int 1), (.int 2)])) _
    refine XS.icmpYes X0.here hx rfl (pc0 := 24) (pc' := 63) rfl (hb hby d5_24) rfl (feq (by decide : ¬ ((2 : Int32) = (1 : Int32)))).2 (by decide) (by decide) ?_
    show Steps p.tables e below (s₁.setTop (mkF m 63 #[.val (.int 2), .val (.int x)] [])) _
    refine XS.iloadN X0.here hx rfl (hb hby d5_63) rfl ?_
    show Steps p.tables e below (s₁.setTop (mkF m 64 #[.val (.int 2), .val (.int x)] [(.int x)])) _
    refine XS.bipush X0.here hx rfl (hb hby d5_64) ?_
    show Steps p.tables e below (s₁.setTop (mkF m 66 #[.val (.int 2), .val (.int x)] [(.int 48), (.int x)])) _
    refine XS.icmpNo X0.here hx rfl (hb hby d5_66) rfl (flt (own_nlt hlo_x (by decide) : ¬ (x < (48 : Int32)))).1 ?_
    show Steps p.tables e below (s₁.setTop (mkF m 69 #[.val (.int 2), .val (.int x)] [])) _
    refine XS.iloadN X0.here hx rfl (hb hby d5_69) rfl ?_
    show Steps p.tables e below (s₁.setTop (mkF m 70 #[.val (.int 2), .val (.int x)] [(.int x)])) _
    refine XS.bipush X0.here hx rfl (hb hby d5_70) ?_
    show Steps p.tables e below (s₁.setTop (mkF m 72 #[.val (.int 2), .val (.int x)] [(.int 57), (.int x)])) _
    refine XS.icmpNo X0.here hx rfl (hb hby d5_72) rfl (tlt (own_gt hlo_x (by decide) : (57 : Int32) < x)).2.2.2 ?_
    show Steps p.tables e below (s₁.setTop (mkF m 75 #[.val (.int 2), .val (.int x)] [])) _
    refine XS.iloadN X0.here hx rfl (hb hby d5_75) rfl ?_
    show Steps p.tables e below (s₁.setTop (mkF m 76 #[.val (.int 2), .val (.int x)] [(.int x)])) _
    refine XS.bipush X0.here hx rfl (hb hby d5_76) ?_
    show Steps p.tables e below (s₁.setTop (mkF m 78 #[.val (.int 2), .val (.int x)] [(.int 65), (.int x)])) _
    refine XS.icmpNo X0.here hx rfl (hb hby d5_78) rfl (flt (own_nlt hlo_x (by decide) : ¬ (x < (65 : Int32)))).1 ?_
    show Steps p.tables e below (s₁.setTop (mkF m 81 #[.val (.int 2), .val (.int x)] [])) _
    refine XS.iloadN X0.here hx rfl (hb hby d5_81) rfl ?_
    show Steps p.tables e below (s₁.setTop (mkF m 82 #[.val (.int 2), .val (.int x)] [(.int x)])) _
    refine XS.bipush X0.here hx rfl (hb hby d5_82) ?_
    show Steps p.tables e below (s₁.setTop (mkF m 84 #[.val (.int 2), .val (.int x)] [(.int 90), (.int x)])) _
    refine XS.icmpYes X0.here hx rfl (pc0 := 84) (pc' := 105) rfl (hb hby d5_84) rfl (flt (own_ngt hhi_x (by decide) : ¬ ((90 : Int32) < x))).2.2.2 (by decide) (by decide) ?_
    show Steps p.tables e below (s₁.setTop (mkF m 105 #[.val (.int 2), .val (.int x)] [])) _
    refine XS.iconst X0.here hx rfl (hb hby d5_105) ?_
    show Steps p.tables e below (s₁.setTop (mkF m 106 #[.val (.int 2), .val (.int x)] [(.int 1)])) _
    refine XS.goto X0.here hx rfl (pc0 := 106) (pc' := 110) rfl (hb hby d5_106) (by decide) (by decide) ?_
    show Steps p.tables e below (s₁.setTop (mkF m 110 #[.val (.int 2), .val (.int x)] [(.int 1)])) _
    exact retN X0 hx (t := .boolean) Bd.returns (by simp) (hb hby d5_110) hr
  · show Q5_2_x_64_91_all_WORD Z x h0 n0 _ s₁.heap _
    rw [e0]
    exact ⟨(by rw [hret]), N0, rfl⟩
def Q5_2_x_90_95_all_WORD (Z : State) (x : Int32) (h0 : Heap) (n0 : Nat) (v : Option Value) (h : Heap) (L : List Loc) : Prop := v = some (.int (own_w x)) ∧ Fr n0 L ∧ h = h0
set_option maxRecDepth 65536 in
set_option maxHeartbeats 40000000 in
theorem rm5_2_x_90_95_all_WORD (l : Launch) (Z : State) (a0 : Array Value) (hw : ∀ d ∈ tables_1, d.before a0 Z = true) (ws : List Jvm.Cond) (x : Int32) (h0 : Heap) (n0 : Nat) (Z0 : n0 ≤ h0.size) (hlo_x : (90 : Int32) < x) (hhi_x : x < (95 : Int32)) (hret : (own_w x) = (0 : Int32)) :
    MetFree l (⟨"com/example/termwell/termwell/core/text/CharClassesPerlPinLaw", "expected", "(II)Z"⟩ : MethodName) (head1 (Jvm.Cond.code (⟨"com/example/termwell/termwell/core/text/CharClassesPerlPinLaw", "expected", "(II)Z"⟩ : MethodName) method_2_code 2 (some .boolean) :: ws) ({ frames := 0, cells := 0, slots := 0, locals := 0 } : Room)) (fun a U => a = #[(.int 2), (.int x)] ∧ Z.Warmed39 U.vm ∧ U.heap = h0) (fun _ _ _ _ _ => True) (fun _ U o U' => ∃ v L, o = .returned v ∧ Q5_2_x_90_95_all_WORD Z x h0 n0 v U'.heap L ∧ FrameEnd U o U' L ({ frames := 0, cells := 0, slots := 0, locals := 0 } : Room).cells ({ frames := 0, cells := 0, slots := 0, locals := 0 } : Room).slots) := by
  refine MetFree.of_bodySF (plainFor_of_name pn_5) hisR ?_
  intro p e s m args below meth c s₁ Bd hml0 hP hK
  obtain ⟨rfl, hZ, hh⟩ := hP
  have hx := Bd.exec
  have hby := Bd.bytes
  have hml : c.maxLocals = 2 := hml0
  have hown : s.vm.findClass "com/example/termwell/termwell/core/text/CharClassesPerlPinLaw" = some m.cls := findClass_of_methodNamed Bd.named
  have hnm := (name_of_methodNamed Bd.named Bd.method).1
  have X0 : Stand p l e ({ frames := 0, cells := 0, slots := 0, locals := 0 } : Room) s m #[(.int 2), (.int x)] below meth c s₁ [] 0 0 := Stand.of_body Bd
  have e0 : s₁.heap = h0 := by rw [← hh, Bd.state]; rfl
  have N0 := Fr.nil n0
  have pre0 : ∀ t, Steps p.tables e below (s₁.setTop (mkF m 0 #[.val (.int 2), .val (.int x)] [])) t → Steps p.tables e below (s₁.setTop (entryFrame m #[(.int 2), (.int x)] 2)) t := fun t k => castTop (by first | (simp [entryFrame, mkF, argsToLocals, Value.category]; done) | rfl) k
  obtain ⟨fs, hr, hrun, hended, hW, hsame⟩ := X0.leave (v := some (.int 0)) (fun h => by rw [Bd.returns] at h; cases h)
  refine ⟨_, _, pre0 _ ?_, hrun, hended, _, _, rfl, ?_, ⟨_, rfl⟩, hW, hsame.mono (by decide) (by decide)⟩
  · show Steps p.tables e below (s₁.setTop (mkF m 0 #[.val (.int 2), .val (.int x)] [])) _
    refine XS.iloadN X0.here hx rfl (hb hby d5_0) rfl ?_
    show Steps p.tables e below (s₁.setTop (mkF m 1 #[.val (.int 2), .val (.int x)] [(.int 2)])) _
    refine XS.ifYes X0.here hx rfl (pc0 := 1) (pc' := 22) rfl (hb hby d5_1) rfl ((if0 _ _).trans (feq (by decide : ¬ ((2 : Int32) = (0 : Int32)))).2) (by decide) (by decide) ?_
    show Steps p.tables e below (s₁.setTop (mkF m 22 #[.val (.int 2), .val (.int x)] [])) _
    refine XS.iloadN X0.here hx rfl (hb hby d5_22) rfl ?_
    show Steps p.tables e below (s₁.setTop (mkF m 23 #[.val (.int 2), .val (.int x)] [(.int 2)])) _
    refine XS.iconst X0.here hx rfl (hb hby d5_23) ?_
    show Steps p.tables e below (s₁.setTop (mkF m 24 #[.val (.int 2), .val (.int x)] [(.int 1), (.int 2)])) _
    refine XS.icmpYes X0.here hx rfl (pc0 := 24) (pc' := 63) rfl (hb hby d5_24) rfl (feq (by decide : ¬ ((2 : Int32) = (1 : Int32)))).2 (by decide) (by decide) ?_
    show Steps p.tables e below (s₁.setTop (mkF m 63 #[.val (.int 2), .val (.int x)] [])) _
    refine XS.iloadN X0.here hx rfl (hb hby d5_63) rfl ?_
    show Steps p.tables e below (s₁.setTop (mkF m 64 #[.val (.int 2), .val (.int x)] [(.int x)])) _
    refine XS.bipush X0.here hx rfl (hb hby d5_64) ?_
    show Steps p.tables e below (s₁.setTop (mkF m 66 #[.val (.int 2), .val (.int x)] [(.int 48), (.int x)])) _
    refine XS.icmpNo X0.here hx rfl (hb hby d5_66) rfl (flt (own_nlt hlo_x (by decide) : ¬ (x < (48 : Int32)))).1 ?_
    show Steps p.tables e below (s₁.setTop (mkF m 69 #[.val (.int 2), .val (.int x)] [])) _
    refine XS.iloadN X0.here hx rfl (hb hby d5_69) rfl ?_
    show Steps p.tables e below (s₁.setTop (mkF m 70 #[.val (.int 2), .val (.int x)] [(.int x)])) _
    refine XS.bipush X0.here hx rfl (hb hby d5_70) ?_
    show Steps p.tables e below (s₁.setTop (mkF m 72 #[.val (.int 2), .val (.int x)] [(.int 57), (.int x)])) _
    refine XS.icmpNo X0.here hx rfl (hb hby d5_72) rfl (tlt (own_gt hlo_x (by decide) : (57 : Int32) < x)).2.2.2 ?_
    show Steps p.tables e below (s₁.setTop (mkF m 75 #[.val (.int 2), .val (.int x)] [])) _
    refine XS.iloadN X0.here hx rfl (hb hby d5_75) rfl ?_
    show Steps p.tables e below (s₁.setTop (mkF m 76 #[.val (.int 2), .val (.int x)] [(.int x)])) _
    refine XS.bipush X0.here hx rfl (hb hby d5_76) ?_
    show Steps p.tables e below (s₁.setTop (mkF m 78 #[.val (.int 2), .val (.int x)] [(.int 65), (.int x)])) _
    refine XS.icmpNo X0.here hx rfl (hb hby d5_78) rfl (flt (own_nlt hlo_x (by decide) : ¬ (x < (65 : Int32)))).1 ?_
    show Steps p.tables e below (s₁.setTop (mkF m 81 #[.val (.int 2), .val (.int x)] [])) _
    refine XS.iloadN X0.here hx rfl (hb hby d5_81) rfl ?_
    show Steps p.tables e below (s₁.setTop (mkF m 82 #[.val (.int 2), .val (.int x)] [(.int x)])) _
    refine XS.bipush X0.here hx rfl (hb hby d5_82) ?_
    show Steps p.tables e below (s₁.setTop (mkF m 84 #[.val (.int 2), .val (.int x)] [(.int 90), (.int x)])) _
    refine XS.icmpNo X0.here hx rfl (hb hby d5_84) rfl (tlt (own_gt hlo_x (by decide) : (90 : Int32) < x)).2.2.2 ?_
    show Steps p.tables e below (s₁.setTop (mkF m 87 #[.val (.int 2), .val (.int x)] [])) _
    refine XS.iloadN X0.here hx rfl (hb hby d5_87) rfl ?_
    show Steps p.tables e below (s₁.setTop (mkF m 88 #[.val (.int 2), .val (.int x)] [(.int x)])) _
    refine XS.bipush X0.here hx rfl (hb hby d5_88) ?_
    show Steps p.tables e below (s₁.setTop (mkF m 90 #[.val (.int 2), .val (.int x)] [(.int 95), (.int x)])) _
    refine XS.icmpNo X0.here hx rfl (hb hby d5_90) rfl (feq (own_nehi hhi_x (by decide) : ¬ (x = (95 : Int32)))).1 ?_
    show Steps p.tables e below (s₁.setTop (mkF m 93 #[.val (.int 2), .val (.int x)] [])) _
    refine XS.iloadN X0.here hx rfl (hb hby d5_93) rfl ?_
    show Steps p.tables e below (s₁.setTop (mkF m 94 #[.val (.int 2), .val (.int x)] [(.int x)])) _
    refine XS.bipush X0.here hx rfl (hb hby d5_94) ?_
    show Steps p.tables e below (s₁.setTop (mkF m 96 #[.val (.int 2), .val (.int x)] [(.int 97), (.int x)])) _
    refine XS.icmpYes X0.here hx rfl (pc0 := 96) (pc' := 109) rfl (hb hby d5_96) rfl (tlt (own_lt hhi_x (by decide) : x < (97 : Int32))).1 (by decide) (by decide) ?_
    show Steps p.tables e below (s₁.setTop (mkF m 109 #[.val (.int 2), .val (.int x)] [])) _
    refine XS.iconst X0.here hx rfl (hb hby d5_109) ?_
    show Steps p.tables e below (s₁.setTop (mkF m 110 #[.val (.int 2), .val (.int x)] [(.int 0)])) _
    exact retN X0 hx (t := .boolean) Bd.returns (by simp) (hb hby d5_110) hr
  · show Q5_2_x_90_95_all_WORD Z x h0 n0 _ s₁.heap _
    rw [e0]
    exact ⟨(by rw [hret]), N0, rfl⟩
def Q5_2_95_all_WORD (Z : State)  (h0 : Heap) (n0 : Nat) (v : Option Value) (h : Heap) (L : List Loc) : Prop := v = some (.int (own_w (95 : Int32))) ∧ Fr n0 L ∧ h = h0
set_option maxRecDepth 65536 in
set_option maxHeartbeats 40000000 in
theorem rm5_2_95_all_WORD (l : Launch) (Z : State) (a0 : Array Value) (hw : ∀ d ∈ tables_1, d.before a0 Z = true) (ws : List Jvm.Cond)  (h0 : Heap) (n0 : Nat) (Z0 : n0 ≤ h0.size) (hret : (own_w (95 : Int32)) = (1 : Int32)) :
    MetFree l (⟨"com/example/termwell/termwell/core/text/CharClassesPerlPinLaw", "expected", "(II)Z"⟩ : MethodName) (head1 (Jvm.Cond.code (⟨"com/example/termwell/termwell/core/text/CharClassesPerlPinLaw", "expected", "(II)Z"⟩ : MethodName) method_2_code 2 (some .boolean) :: ws) ({ frames := 0, cells := 0, slots := 0, locals := 0 } : Room)) (fun a U => a = #[(.int 2), (.int 95)] ∧ Z.Warmed39 U.vm ∧ U.heap = h0) (fun _ _ _ _ _ => True) (fun _ U o U' => ∃ v L, o = .returned v ∧ Q5_2_95_all_WORD Z  h0 n0 v U'.heap L ∧ FrameEnd U o U' L ({ frames := 0, cells := 0, slots := 0, locals := 0 } : Room).cells ({ frames := 0, cells := 0, slots := 0, locals := 0 } : Room).slots) := by
  refine MetFree.of_bodySF (plainFor_of_name pn_5) hisR ?_
  intro p e s m args below meth c s₁ Bd hml0 hP hK
  obtain ⟨rfl, hZ, hh⟩ := hP
  have hx := Bd.exec
  have hby := Bd.bytes
  have hml : c.maxLocals = 2 := hml0
  have hown : s.vm.findClass "com/example/termwell/termwell/core/text/CharClassesPerlPinLaw" = some m.cls := findClass_of_methodNamed Bd.named
  have hnm := (name_of_methodNamed Bd.named Bd.method).1
  have X0 : Stand p l e ({ frames := 0, cells := 0, slots := 0, locals := 0 } : Room) s m #[(.int 2), (.int 95)] below meth c s₁ [] 0 0 := Stand.of_body Bd
  have e0 : s₁.heap = h0 := by rw [← hh, Bd.state]; rfl
  have N0 := Fr.nil n0
  have pre0 : ∀ t, Steps p.tables e below (s₁.setTop (mkF m 0 #[.val (.int 2), .val (.int 95)] [])) t → Steps p.tables e below (s₁.setTop (entryFrame m #[(.int 2), (.int 95)] 2)) t := fun t k => castTop (by first | (simp [entryFrame, mkF, argsToLocals, Value.category]; done) | rfl) k
  obtain ⟨fs, hr, hrun, hended, hW, hsame⟩ := X0.leave (v := some (.int 1)) (fun h => by rw [Bd.returns] at h; cases h)
  refine ⟨_, _, pre0 _ ?_, hrun, hended, _, _, rfl, ?_, ⟨_, rfl⟩, hW, hsame.mono (by decide) (by decide)⟩
  · show Steps p.tables e below (s₁.setTop (mkF m 0 #[.val (.int 2), .val (.int 95)] [])) _
    refine XS.iloadN X0.here hx rfl (hb hby d5_0) rfl ?_
    show Steps p.tables e below (s₁.setTop (mkF m 1 #[.val (.int 2), .val (.int 95)] [(.int 2)])) _
    refine XS.ifYes X0.here hx rfl (pc0 := 1) (pc' := 22) rfl (hb hby d5_1) rfl ((if0 _ _).trans (feq (by decide : ¬ ((2 : Int32) = (0 : Int32)))).2) (by decide) (by decide) ?_
    show Steps p.tables e below (s₁.setTop (mkF m 22 #[.val (.int 2), .val (.int 95)] [])) _
    refine XS.iloadN X0.here hx rfl (hb hby d5_22) rfl ?_
    show Steps p.tables e below (s₁.setTop (mkF m 23 #[.val (.int 2), .val (.int 95)] [(.int 2)])) _
    refine XS.iconst X0.here hx rfl (hb hby d5_23) ?_
    show Steps p.tables e below (s₁.setTop (mkF m 24 #[.val (.int 2), .val (.int 95)] [(.int 1), (.int 2)])) _
    refine XS.icmpYes X0.here hx rfl (pc0 := 24) (pc' := 63) rfl (hb hby d5_24) rfl (feq (by decide : ¬ ((2 : Int32) = (1 : Int32)))).2 (by decide) (by decide) ?_
    show Steps p.tables e below (s₁.setTop (mkF m 63 #[.val (.int 2), .val (.int 95)] [])) _
    refine XS.iloadN X0.here hx rfl (hb hby d5_63) rfl ?_
    show Steps p.tables e below (s₁.setTop (mkF m 64 #[.val (.int 2), .val (.int 95)] [(.int 95)])) _
    refine XS.bipush X0.here hx rfl (hb hby d5_64) ?_
    show Steps p.tables e below (s₁.setTop (mkF m 66 #[.val (.int 2), .val (.int 95)] [(.int 48), (.int 95)])) _
    refine XS.icmpNo X0.here hx rfl (hb hby d5_66) rfl (flt (by decide : ¬ ((95 : Int32) < (48 : Int32)))).1 ?_
    show Steps p.tables e below (s₁.setTop (mkF m 69 #[.val (.int 2), .val (.int 95)] [])) _
    refine XS.iloadN X0.here hx rfl (hb hby d5_69) rfl ?_
    show Steps p.tables e below (s₁.setTop (mkF m 70 #[.val (.int 2), .val (.int 95)] [(.int 95)])) _
    refine XS.bipush X0.here hx rfl (hb hby d5_70) ?_
    show Steps p.tables e below (s₁.setTop (mkF m 72 #[.val (.int 2), .val (.int 95)] [(.int 57), (.int 95)])) _
    refine XS.icmpNo X0.here hx rfl (hb hby d5_72) rfl (tlt (by decide : (57 : Int32) < (95 : Int32))).2.2.2 ?_
    show Steps p.tables e below (s₁.setTop (mkF m 75 #[.val (.int 2), .val (.int 95)] [])) _
    refine XS.iloadN X0.here hx rfl (hb hby d5_75) rfl ?_
    show Steps p.tables e below (s₁.setTop (mkF m 76 #[.val (.int 2), .val (.int 95)] [(.int 95)])) _
    refine XS.bipush X0.here hx rfl (hb hby d5_76) ?_
    show Steps p.tables e below (s₁.setTop (mkF m 78 #[.val (.int 2), .val (.int 95)] [(.int 65), (.int 95)])) _
    refine XS.icmpNo X0.here hx rfl (hb hby d5_78) rfl (flt (by decide : ¬ ((95 : Int32) < (65 : Int32)))).1 ?_
    show Steps p.tables e below (s₁.setTop (mkF m 81 #[.val (.int 2), .val (.int 95)] [])) _
    refine XS.iloadN X0.here hx rfl (hb hby d5_81) rfl ?_
    show Steps p.tables e below (s₁.setTop (mkF m 82 #[.val (.int 2), .val (.int 95)] [(.int 95)])) _
    refine XS.bipush X0.here hx rfl (hb hby d5_82) ?_
    show Steps p.tables e below (s₁.setTop (mkF m 84 #[.val (.int 2), .val (.int 95)] [(.int 90), (.int 95)])) _
    refine XS.icmpNo X0.here hx rfl (hb hby d5_84) rfl (tlt (by decide : (90 : Int32) < (95 : Int32))).2.2.2 ?_
    show Steps p.tables e below (s₁.setTop (mkF m 87 #[.val (.int 2), .val (.int 95)] [])) _
    refine XS.iloadN X0.here hx rfl (hb hby d5_87) rfl ?_
    show Steps p.tables e below (s₁.setTop (mkF m 88 #[.val (.int 2), .val (.int 95)] [(.int 95)])) _
    refine XS.bipush X0.here hx rfl (hb hby d5_88) ?_
    show Steps p.tables e below (s₁.setTop (mkF m 90 #[.val (.int 2), .val (.int 95)] [(.int 95), (.int 95)])) _
    refine XS.icmpYes X0.here hx rfl (pc0 := 90) (pc' := 105) rfl (hb hby d5_90) rfl (teq (by decide : (95 : Int32) = (95 : Int32))).1 (by decide) (by decide) ?_
    show Steps p.tables e below (s₁.setTop (mkF m 105 #[.val (.int 2), .val (.int 95)] [])) _
    refine XS.iconst X0.here hx rfl (hb hby d5_105) ?_
    show Steps p.tables e below (s₁.setTop (mkF m 106 #[.val (.int 2), .val (.int 95)] [(.int 1)])) _
    refine XS.goto X0.here hx rfl (pc0 := 106) (pc' := 110) rfl (hb hby d5_106) (by decide) (by decide) ?_
    show Steps p.tables e below (s₁.setTop (mkF m 110 #[.val (.int 2), .val (.int 95)] [(.int 1)])) _
    exact retN X0 hx (t := .boolean) Bd.returns (by simp) (hb hby d5_110) hr
  · show Q5_2_95_all_WORD Z  h0 n0 _ s₁.heap _
    rw [e0]
    exact ⟨(by rw [hret]), N0, rfl⟩
def Q5_2_96_all_WORD (Z : State)  (h0 : Heap) (n0 : Nat) (v : Option Value) (h : Heap) (L : List Loc) : Prop := v = some (.int (own_w (96 : Int32))) ∧ Fr n0 L ∧ h = h0
set_option maxRecDepth 65536 in
set_option maxHeartbeats 40000000 in
theorem rm5_2_96_all_WORD (l : Launch) (Z : State) (a0 : Array Value) (hw : ∀ d ∈ tables_1, d.before a0 Z = true) (ws : List Jvm.Cond)  (h0 : Heap) (n0 : Nat) (Z0 : n0 ≤ h0.size) (hret : (own_w (96 : Int32)) = (0 : Int32)) :
    MetFree l (⟨"com/example/termwell/termwell/core/text/CharClassesPerlPinLaw", "expected", "(II)Z"⟩ : MethodName) (head1 (Jvm.Cond.code (⟨"com/example/termwell/termwell/core/text/CharClassesPerlPinLaw", "expected", "(II)Z"⟩ : MethodName) method_2_code 2 (some .boolean) :: ws) ({ frames := 0, cells := 0, slots := 0, locals := 0 } : Room)) (fun a U => a = #[(.int 2), (.int 96)] ∧ Z.Warmed39 U.vm ∧ U.heap = h0) (fun _ _ _ _ _ => True) (fun _ U o U' => ∃ v L, o = .returned v ∧ Q5_2_96_all_WORD Z  h0 n0 v U'.heap L ∧ FrameEnd U o U' L ({ frames := 0, cells := 0, slots := 0, locals := 0 } : Room).cells ({ frames := 0, cells := 0, slots := 0, locals := 0 } : Room).slots) := by
  refine MetFree.of_bodySF (plainFor_of_name pn_5) hisR ?_
  intro p e s m args below meth c s₁ Bd hml0 hP hK
  obtain ⟨rfl, hZ, hh⟩ := hP
  have hx := Bd.exec
  have hby := Bd.bytes
  have hml : c.maxLocals = 2 := hml0
  have hown : s.vm.findClass "com/example/termwell/termwell/core/text/CharClassesPerlPinLaw" = some m.cls := findClass_of_methodNamed Bd.named
  have hnm := (name_of_methodNamed Bd.named Bd.method).1
  have X0 : Stand p l e ({ frames := 0, cells := 0, slots := 0, locals := 0 } : Room) s m #[(.int 2), (.int 96)] below meth c s₁ [] 0 0 := Stand.of_body Bd
  have e0 : s₁.heap = h0 := by rw [← hh, Bd.state]; rfl
  have N0 := Fr.nil n0
  have pre0 : ∀ t, Steps p.tables e below (s₁.setTop (mkF m 0 #[.val (.int 2), .val (.int 96)] [])) t → Steps p.tables e below (s₁.setTop (entryFrame m #[(.int 2), (.int 96)] 2)) t := fun t k => castTop (by first | (simp [entryFrame, mkF, argsToLocals, Value.category]; done) | rfl) k
  obtain ⟨fs, hr, hrun, hended, hW, hsame⟩ := X0.leave (v := some (.int 0)) (fun h => by rw [Bd.returns] at h; cases h)
  refine ⟨_, _, pre0 _ ?_, hrun, hended, _, _, rfl, ?_, ⟨_, rfl⟩, hW, hsame.mono (by decide) (by decide)⟩
  · show Steps p.tables e below (s₁.setTop (mkF m 0 #[.val (.int 2), .val (.int 96)] [])) _
    refine XS.iloadN X0.here hx rfl (hb hby d5_0) rfl ?_
    show Steps p.tables e below (s₁.setTop (mkF m 1 #[.val (.int 2), .val (.int 96)] [(.int 2)])) _
    refine XS.ifYes X0.here hx rfl (pc0 := 1) (pc' := 22) rfl (hb hby d5_1) rfl ((if0 _ _).trans (feq (by decide : ¬ ((2 : Int32) = (0 : Int32)))).2) (by decide) (by decide) ?_
    show Steps p.tables e below (s₁.setTop (mkF m 22 #[.val (.int 2), .val (.int 96)] [])) _
    refine XS.iloadN X0.here hx rfl (hb hby d5_22) rfl ?_
    show Steps p.tables e below (s₁.setTop (mkF m 23 #[.val (.int 2), .val (.int 96)] [(.int 2)])) _
    refine XS.iconst X0.here hx rfl (hb hby d5_23) ?_
    show Steps p.tables e below (s₁.setTop (mkF m 24 #[.val (.int 2), .val (.int 96)] [(.int 1), (.int 2)])) _
    refine XS.icmpYes X0.here hx rfl (pc0 := 24) (pc' := 63) rfl (hb hby d5_24) rfl (feq (by decide : ¬ ((2 : Int32) = (1 : Int32)))).2 (by decide) (by decide) ?_
    show Steps p.tables e below (s₁.setTop (mkF m 63 #[.val (.int 2), .val (.int 96)] [])) _
    refine XS.iloadN X0.here hx rfl (hb hby d5_63) rfl ?_
    show Steps p.tables e below (s₁.setTop (mkF m 64 #[.val (.int 2), .val (.int 96)] [(.int 96)])) _
    refine XS.bipush X0.here hx rfl (hb hby d5_64) ?_
    show Steps p.tables e below (s₁.setTop (mkF m 66 #[.val (.int 2), .val (.int 96)] [(.int 48), (.int 96)])) _
    refine XS.icmpNo X0.here hx rfl (hb hby d5_66) rfl (flt (by decide : ¬ ((96 : Int32) < (48 : Int32)))).1 ?_
    show Steps p.tables e below (s₁.setTop (mkF m 69 #[.val (.int 2), .val (.int 96)] [])) _
    refine XS.iloadN X0.here hx rfl (hb hby d5_69) rfl ?_
    show Steps p.tables e below (s₁.setTop (mkF m 70 #[.val (.int 2), .val (.int 96)] [(.int 96)])) _
    refine XS.bipush X0.here hx rfl (hb hby d5_70) ?_
    show Steps p.tables e below (s₁.setTop (mkF m 72 #[.val (.int 2), .val (.int 96)] [(.int 57), (.int 96)])) _
    refine XS.icmpNo X0.here hx rfl (hb hby d5_72) rfl (tlt (by decide : (57 : Int32) < (96 : Int32))).2.2.2 ?_
    show Steps p.tables e below (s₁.setTop (mkF m 75 #[.val (.int 2), .val (.int 96)] [])) _
    refine XS.iloadN X0.here hx rfl (hb hby d5_75) rfl ?_
    show Steps p.tables e below (s₁.setTop (mkF m 76 #[.val (.int 2), .val (.int 96)] [(.int 96)])) _
    refine XS.bipush X0.here hx rfl (hb hby d5_76) ?_
    show Steps p.tables e below (s₁.setTop (mkF m 78 #[.val (.int 2), .val (.int 96)] [(.int 65), (.int 96)])) _
    refine XS.icmpNo X0.here hx rfl (hb hby d5_78) rfl (flt (by decide : ¬ ((96 : Int32) < (65 : Int32)))).1 ?_
    show Steps p.tables e below (s₁.setTop (mkF m 81 #[.val (.int 2), .val (.int 96)] [])) _
    refine XS.iloadN X0.here hx rfl (hb hby d5_81) rfl ?_
    show Steps p.tables e below (s₁.setTop (mkF m 82 #[.val (.int 2), .val (.int 96)] [(.int 96)])) _
    refine XS.bipush X0.here hx rfl (hb hby d5_82) ?_
    show Steps p.tables e below (s₁.setTop (mkF m 84 #[.val (.int 2), .val (.int 96)] [(.int 90), (.int 96)])) _
    refine XS.icmpNo X0.here hx rfl (hb hby d5_84) rfl (tlt (by decide : (90 : Int32) < (96 : Int32))).2.2.2 ?_
    show Steps p.tables e below (s₁.setTop (mkF m 87 #[.val (.int 2), .val (.int 96)] [])) _
    refine XS.iloadN X0.here hx rfl (hb hby d5_87) rfl ?_
    show Steps p.tables e below (s₁.setTop (mkF m 88 #[.val (.int 2), .val (.int 96)] [(.int 96)])) _
    refine XS.bipush X0.here hx rfl (hb hby d5_88) ?_
    show Steps p.tables e below (s₁.setTop (mkF m 90 #[.val (.int 2), .val (.int 96)] [(.int 95), (.int 96)])) _
    refine XS.icmpNo X0.here hx rfl (hb hby d5_90) rfl (feq (by decide : ¬ ((96 : Int32) = (95 : Int32)))).1 ?_
    show Steps p.tables e below (s₁.setTop (mkF m 93 #[.val (.int 2), .val (.int 96)] [])) _
    refine XS.iloadN X0.here hx rfl (hb hby d5_93) rfl ?_
    show Steps p.tables e below (s₁.setTop (mkF m 94 #[.val (.int 2), .val (.int 96)] [(.int 96)])) _
    refine XS.bipush X0.here hx rfl (hb hby d5_94) ?_
    show Steps p.tables e below (s₁.setTop (mkF m 96 #[.val (.int 2), .val (.int 96)] [(.int 97), (.int 96)])) _
    refine XS.icmpYes X0.here hx rfl (pc0 := 96) (pc' := 109) rfl (hb hby d5_96) rfl (tlt (by decide : (96 : Int32) < (97 : Int32))).1 (by decide) (by decide) ?_
    show Steps p.tables e below (s₁.setTop (mkF m 109 #[.val (.int 2), .val (.int 96)] [])) _
    refine XS.iconst X0.here hx rfl (hb hby d5_109) ?_
    show Steps p.tables e below (s₁.setTop (mkF m 110 #[.val (.int 2), .val (.int 96)] [(.int 0)])) _
    exact retN X0 hx (t := .boolean) Bd.returns (by simp) (hb hby d5_110) hr
  · show Q5_2_96_all_WORD Z  h0 n0 _ s₁.heap _
    rw [e0]
    exact ⟨(by rw [hret]), N0, rfl⟩
def Q5_2_x_96_123_all_WORD (Z : State) (x : Int32) (h0 : Heap) (n0 : Nat) (v : Option Value) (h : Heap) (L : List Loc) : Prop := v = some (.int (own_w x)) ∧ Fr n0 L ∧ h = h0
set_option maxRecDepth 65536 in
set_option maxHeartbeats 40000000 in
theorem rm5_2_x_96_123_all_WORD (l : Launch) (Z : State) (a0 : Array Value) (hw : ∀ d ∈ tables_1, d.before a0 Z = true) (ws : List Jvm.Cond) (x : Int32) (h0 : Heap) (n0 : Nat) (Z0 : n0 ≤ h0.size) (hlo_x : (96 : Int32) < x) (hhi_x : x < (123 : Int32)) (hret : (own_w x) = (1 : Int32)) :
    MetFree l (⟨"com/example/termwell/termwell/core/text/CharClassesPerlPinLaw", "expected", "(II)Z"⟩ : MethodName) (head1 (Jvm.Cond.code (⟨"com/example/termwell/termwell/core/text/CharClassesPerlPinLaw", "expected", "(II)Z"⟩ : MethodName) method_2_code 2 (some .boolean) :: ws) ({ frames := 0, cells := 0, slots := 0, locals := 0 } : Room)) (fun a U => a = #[(.int 2), (.int x)] ∧ Z.Warmed39 U.vm ∧ U.heap = h0) (fun _ _ _ _ _ => True) (fun _ U o U' => ∃ v L, o = .returned v ∧ Q5_2_x_96_123_all_WORD Z x h0 n0 v U'.heap L ∧ FrameEnd U o U' L ({ frames := 0, cells := 0, slots := 0, locals := 0 } : Room).cells ({ frames := 0, cells := 0, slots := 0, locals := 0 } : Room).slots) := by
  refine MetFree.of_bodySF (plainFor_of_name pn_5) hisR ?_
  intro p e s m args below meth c s₁ Bd hml0 hP hK
  obtain ⟨rfl, hZ, hh⟩ := hP
  have hx := Bd.exec
  have hby := Bd.bytes
  have hml : c.maxLocals = 2 := hml0
  have hown : s.vm.findClass "com/example/termwell/termwell/core/text/CharClassesPerlPinLaw" = some m.cls := findClass_of_methodNamed Bd.named
  have hnm := (name_of_methodNamed Bd.named Bd.method).1
  have X0 : Stand p l e ({ frames := 0, cells := 0, slots := 0, locals := 0 } : Room) s m #[(.int 2), (.int x)] below meth c s₁ [] 0 0 := Stand.of_body Bd
  have e0 : s₁.heap = h0 := by rw [← hh, Bd.state]; rfl
  have N0 := Fr.nil n0
  have pre0 : ∀ t, Steps p.tables e below (s₁.setTop (mkF m 0 #[.val (.int 2), .val (.int x)] [])) t → Steps p.tables e below (s₁.setTop (entryFrame m #[(.int 2), (.int x)] 2)) t := fun t k => castTop (by first | (simp [entryFrame, mkF, argsToLocals, Value.category]; done) | rfl) k
  obtain ⟨fs, hr, hrun, hended, hW, hsame⟩ := X0.leave (v := some (.int 1)) (fun h => by rw [Bd.returns] at h; cases h)
  refine ⟨_, _, pre0 _ ?_, hrun, hended, _, _, rfl, ?_, ⟨_, rfl⟩, hW, hsame.mono (by decide) (by decide)⟩
  · show Steps p.tables e below (s₁.setTop (mkF m 0 #[.val (.int 2), .val (.int x)] [])) _
    refine XS.iloadN X0.here hx rfl (hb hby d5_0) rfl ?_
    show Steps p.tables e below (s₁.setTop (mkF m 1 #[.val (.int 2), .val (.int x)] [(.int 2)])) _
    refine XS.ifYes X0.here hx rfl (pc0 := 1) (pc' := 22) rfl (hb hby d5_1) rfl ((if0 _ _).trans (feq (by decide : ¬ ((2 : Int32) = (0 : Int32)))).2) (by decide) (by decide) ?_
    show Steps p.tables e below (s₁.setTop (mkF m 22 #[.val (.int 2), .val (.int x)] [])) _
    refine XS.iloadN X0.here hx rfl (hb hby d5_22) rfl ?_
    show Steps p.tables e below (s₁.setTop (mkF m 23 #[.val (.int 2), .val (.int x)] [(.int 2)])) _
    refine XS.iconst X0.here hx rfl (hb hby d5_23) ?_
    show Steps p.tables e below (s₁.setTop (mkF m 24 #[.val (.int 2), .val (.int x)] [(.int 1), (.int 2)])) _
    refine XS.icmpYes X0.here hx rfl (pc0 := 24) (pc' := 63) rfl (hb hby d5_24) rfl (feq (by decide : ¬ ((2 : Int32) = (1 : Int32)))).2 (by decide) (by decide) ?_
    show Steps p.tables e below (s₁.setTop (mkF m 63 #[.val (.int 2), .val (.int x)] [])) _
    refine XS.iloadN X0.here hx rfl (hb hby d5_63) rfl ?_
    show Steps p.tables e below (s₁.setTop (mkF m 64 #[.val (.int 2), .val (.int x)] [(.int x)])) _
    refine XS.bipush X0.here hx rfl (hb hby d5_64) ?_
    show Steps p.tables e below (s₁.setTop (mkF m 66 #[.val (.int 2), .val (.int x)] [(.int 48), (.int x)])) _
    refine XS.icmpNo X0.here hx rfl (hb hby d5_66) rfl (flt (own_nlt hlo_x (by decide) : ¬ (x < (48 : Int32)))).1 ?_
    show Steps p.tables e below (s₁.setTop (mkF m 69 #[.val (.int 2), .val (.int x)] [])) _
    refine XS.iloadN X0.here hx rfl (hb hby d5_69) rfl ?_
    show Steps p.tables e below (s₁.setTop (mkF m 70 #[.val (.int 2), .val (.int x)] [(.int x)])) _
    refine XS.bipush X0.here hx rfl (hb hby d5_70) ?_
    show Steps p.tables e below (s₁.setTop (mkF m 72 #[.val (.int 2), .val (.int x)] [(.int 57), (.int x)])) _
    refine XS.icmpNo X0.here hx rfl (hb hby d5_72) rfl (tlt (own_gt hlo_x (by decide) : (57 : Int32) < x)).2.2.2 ?_
    show Steps p.tables e below (s₁.setTop (mkF m 75 #[.val (.int 2), .val (.int x)] [])) _
    refine XS.iloadN X0.here hx rfl (hb hby d5_75) rfl ?_
    show Steps p.tables e below (s₁.setTop (mkF m 76 #[.val (.int 2), .val (.int x)] [(.int x)])) _
    refine XS.bipush X0.here hx rfl (hb hby d5_76) ?_
    show Steps p.tables e below (s₁.setTop (mkF m 78 #[.val (.int 2), .val (.int x)] [(.int 65), (.int x)])) _
    refine XS.icmpNo X0.here hx rfl (hb hby d5_78) rfl (flt (own_nlt hlo_x (by decide) : ¬ (x < (65 : Int32)))).1 ?_
    show Steps p.tables e below (s₁.setTop (mkF m 81 #[.val (.int 2), .val (.int x)] [])) _
    refine XS.iloadN X0.here hx rfl (hb hby d5_81) rfl ?_
    show Steps p.tables e below (s₁.setTop (mkF m 82 #[.val (.int 2), .val (.int x)] [(.int x)])) _
    refine XS.bipush X0.here hx rfl (hb hby d5_82) ?_
    show Steps p.tables e below (s₁.setTop (mkF m 84 #[.val (.int 2), .val (.int x)] [(.int 90), (.int x)])) _
    refine XS.icmpNo X0.here hx rfl (hb hby d5_84) rfl (tlt (own_gt hlo_x (by decide) : (90 : Int32) < x)).2.2.2 ?_
    show Steps p.tables e below (s₁.setTop (mkF m 87 #[.val (.int 2), .val (.int x)] [])) _
    refine XS.iloadN X0.here hx rfl (hb hby d5_87) rfl ?_
    show Steps p.tables e below (s₁.setTop (mkF m 88 #[.val (.int 2), .val (.int x)] [(.int x)])) _
    refine XS.bipush X0.here hx rfl (hb hby d5_88) ?_
    show Steps p.tables e below (s₁.setTop (mkF m 90 #[.val (.int 2), .val (.int x)] [(.int 95), (.int x)])) _
    refine XS.icmpNo X0.here hx rfl (hb hby d5_90) rfl (feq (own_nelo hlo_x (by decide) : ¬ (x = (95 : Int32)))).1 ?_
    show Steps p.tables e below (s₁.setTop (mkF m 93 #[.val (.int 2), .val (.int x)] [])) _
    refine XS.iloadN X0.here hx rfl (hb hby d5_93) rfl ?_
    show Steps p.tables e below (s₁.setTop (mkF m 94 #[.val (.int 2), .val (.int x)] [(.int x)])) _
    refine XS.bipush X0.here hx rfl (hb hby d5_94) ?_
    show Steps p.tables e below (s₁.setTop (mkF m 96 #[.val (.int 2), .val (.int x)] [(.int 97), (.int x)])) _
    refine XS.icmpNo X0.here hx rfl (hb hby d5_96) rfl (flt (own_nlt hlo_x (by decide) : ¬ (x < (97 : Int32)))).1 ?_
    show Steps p.tables e below (s₁.setTop (mkF m 99 #[.val (.int 2), .val (.int x)] [])) _
    refine XS.iloadN X0.here hx rfl (hb hby d5_99) rfl ?_
    show Steps p.tables e below (s₁.setTop (mkF m 100 #[.val (.int 2), .val (.int x)] [(.int x)])) _
    refine XS.bipush X0.here hx rfl (hb hby d5_100) ?_
    show Steps p.tables e below (s₁.setTop (mkF m 102 #[.val (.int 2), .val (.int x)] [(.int 122), (.int x)])) _
    refine XS.icmpNo X0.here hx rfl (hb hby d5_102) rfl (flt (own_ngt hhi_x (by decide) : ¬ ((122 : Int32) < x))).2.2.1 ?_
    show Steps p.tables e below (s₁.setTop (mkF m 105 #[.val (.int 2), .val (.int x)] [])) _
    refine XS.iconst X0.here hx rfl (hb hby d5_105) ?_
    show Steps p.tables e below (s₁.setTop (mkF m 106 #[.val (.int 2), .val (.int x)] [(.int 1)])) _
    refine XS.goto X0.here hx rfl (pc0 := 106) (pc' := 110) rfl (hb hby d5_106) (by decide) (by decide) ?_
    show Steps p.tables e below (s₁.setTop (mkF m 110 #[.val (.int 2), .val (.int x)] [(.int 1)])) _
    exact retN X0 hx (t := .boolean) Bd.returns (by simp) (hb hby d5_110) hr
  · show Q5_2_x_96_123_all_WORD Z x h0 n0 _ s₁.heap _
    rw [e0]
    exact ⟨(by rw [hret]), N0, rfl⟩
def Q5_2_x_122_None_all_WORD (Z : State) (x : Int32) (h0 : Heap) (n0 : Nat) (v : Option Value) (h : Heap) (L : List Loc) : Prop := v = some (.int (own_w x)) ∧ Fr n0 L ∧ h = h0
set_option maxRecDepth 65536 in
set_option maxHeartbeats 40000000 in
theorem rm5_2_x_122_None_all_WORD (l : Launch) (Z : State) (a0 : Array Value) (hw : ∀ d ∈ tables_1, d.before a0 Z = true) (ws : List Jvm.Cond) (x : Int32) (h0 : Heap) (n0 : Nat) (Z0 : n0 ≤ h0.size) (hlo_x : (122 : Int32) < x) (hret : (own_w x) = (0 : Int32)) :
    MetFree l (⟨"com/example/termwell/termwell/core/text/CharClassesPerlPinLaw", "expected", "(II)Z"⟩ : MethodName) (head1 (Jvm.Cond.code (⟨"com/example/termwell/termwell/core/text/CharClassesPerlPinLaw", "expected", "(II)Z"⟩ : MethodName) method_2_code 2 (some .boolean) :: ws) ({ frames := 0, cells := 0, slots := 0, locals := 0 } : Room)) (fun a U => a = #[(.int 2), (.int x)] ∧ Z.Warmed39 U.vm ∧ U.heap = h0) (fun _ _ _ _ _ => True) (fun _ U o U' => ∃ v L, o = .returned v ∧ Q5_2_x_122_None_all_WORD Z x h0 n0 v U'.heap L ∧ FrameEnd U o U' L ({ frames := 0, cells := 0, slots := 0, locals := 0 } : Room).cells ({ frames := 0, cells := 0, slots := 0, locals := 0 } : Room).slots) := by
  refine MetFree.of_bodySF (plainFor_of_name pn_5) hisR ?_
  intro p e s m args below meth c s₁ Bd hml0 hP hK
  obtain ⟨rfl, hZ, hh⟩ := hP
  have hx := Bd.exec
  have hby := Bd.bytes
  have hml : c.maxLocals = 2 := hml0
  have hown : s.vm.findClass "com/example/termwell/termwell/core/text/CharClassesPerlPinLaw" = some m.cls := findClass_of_methodNamed Bd.named
  have hnm := (name_of_methodNamed Bd.named Bd.method).1
  have X0 : Stand p l e ({ frames := 0, cells := 0, slots := 0, locals := 0 } : Room) s m #[(.int 2), (.int x)] below meth c s₁ [] 0 0 := Stand.of_body Bd
  have e0 : s₁.heap = h0 := by rw [← hh, Bd.state]; rfl
  have N0 := Fr.nil n0
  have pre0 : ∀ t, Steps p.tables e below (s₁.setTop (mkF m 0 #[.val (.int 2), .val (.int x)] [])) t → Steps p.tables e below (s₁.setTop (entryFrame m #[(.int 2), (.int x)] 2)) t := fun t k => castTop (by first | (simp [entryFrame, mkF, argsToLocals, Value.category]; done) | rfl) k
  obtain ⟨fs, hr, hrun, hended, hW, hsame⟩ := X0.leave (v := some (.int 0)) (fun h => by rw [Bd.returns] at h; cases h)
  refine ⟨_, _, pre0 _ ?_, hrun, hended, _, _, rfl, ?_, ⟨_, rfl⟩, hW, hsame.mono (by decide) (by decide)⟩
  · show Steps p.tables e below (s₁.setTop (mkF m 0 #[.val (.int 2), .val (.int x)] [])) _
    refine XS.iloadN X0.here hx rfl (hb hby d5_0) rfl ?_
    show Steps p.tables e below (s₁.setTop (mkF m 1 #[.val (.int 2), .val (.int x)] [(.int 2)])) _
    refine XS.ifYes X0.here hx rfl (pc0 := 1) (pc' := 22) rfl (hb hby d5_1) rfl ((if0 _ _).trans (feq (by decide : ¬ ((2 : Int32) = (0 : Int32)))).2) (by decide) (by decide) ?_
    show Steps p.tables e below (s₁.setTop (mkF m 22 #[.val (.int 2), .val (.int x)] [])) _
    refine XS.iloadN X0.here hx rfl (hb hby d5_22) rfl ?_
    show Steps p.tables e below (s₁.setTop (mkF m 23 #[.val (.int 2), .val (.int x)] [(.int 2)])) _
    refine XS.iconst X0.here hx rfl (hb hby d5_23) ?_
    show Steps p.tables e below (s₁.setTop (mkF m 24 #[.val (.int 2), .val (.int x)] [(.int 1), (.int 2)])) _
    refine XS.icmpYes X0.here hx rfl (pc0 := 24) (pc' := 63) rfl (hb hby d5_24) rfl (feq (by decide : ¬ ((2 : Int32) = (1 : Int32)))).2 (by decide) (by decide) ?_
    show Steps p.tables e below (s₁.setTop (mkF m 63 #[.val (.int 2), .val (.int x)] [])) _
    refine XS.iloadN X0.here hx rfl (hb hby d5_63) rfl ?_
    show Steps p.tables e below (s₁.setTop (mkF m 64 #[.val (.int 2), .val (.int x)] [(.int x)])) _
    refine XS.bipush X0.here hx rfl (hb hby d5_64) ?_
    show Steps p.tables e below (s₁.setTop (mkF m 66 #[.val (.int 2), .val (.int x)] [(.int 48), (.int x)])) _
    refine XS.icmpNo X0.here hx rfl (hb hby d5_66) rfl (flt (own_nlt hlo_x (by decide) : ¬ (x < (48 : Int32)))).1 ?_
    show Steps p.tables e below (s₁.setTop (mkF m 69 #[.val (.int 2), .val (.int x)] [])) _
    refine XS.iloadN X0.here hx rfl (hb hby d5_69) rfl ?_
    show Steps p.tables e below (s₁.setTop (mkF m 70 #[.val (.int 2), .val (.int x)] [(.int x)])) _
    refine XS.bipush X0.here hx rfl (hb hby d5_70) ?_
    show Steps p.tables e below (s₁.setTop (mkF m 72 #[.val (.int 2), .val (.int x)] [(.int 57), (.int x)])) _
    refine XS.icmpNo X0.here hx rfl (hb hby d5_72) rfl (tlt (own_gt hlo_x (by decide) : (57 : Int32) < x)).2.2.2 ?_
    show Steps p.tables e below (s₁.setTop (mkF m 75 #[.val (.int 2), .val (.int x)] [])) _
    refine XS.iloadN X0.here hx rfl (hb hby d5_75) rfl ?_
    show Steps p.tables e below (s₁.setTop (mkF m 76 #[.val (.int 2), .val (.int x)] [(.int x)])) _
    refine XS.bipush X0.here hx rfl (hb hby d5_76) ?_
    show Steps p.tables e below (s₁.setTop (mkF m 78 #[.val (.int 2), .val (.int x)] [(.int 65), (.int x)])) _
    refine XS.icmpNo X0.here hx rfl (hb hby d5_78) rfl (flt (own_nlt hlo_x (by decide) : ¬ (x < (65 : Int32)))).1 ?_
    show Steps p.tables e below (s₁.setTop (mkF m 81 #[.val (.int 2), .val (.int x)] [])) _
    refine XS.iloadN X0.here hx rfl (hb hby d5_81) rfl ?_
    show Steps p.tables e below (s₁.setTop (mkF m 82 #[.val (.int 2), .val (.int x)] [(.int x)])) _
    refine XS.bipush X0.here hx rfl (hb hby d5_82) ?_
    show Steps p.tables e below (s₁.setTop (mkF m 84 #[.val (.int 2), .val (.int x)] [(.int 90), (.int x)])) _
    refine XS.icmpNo X0.here hx rfl (hb hby d5_84) rfl (tlt (own_gt hlo_x (by decide) : (90 : Int32) < x)).2.2.2 ?_
    show Steps p.tables e below (s₁.setTop (mkF m 87 #[.val (.int 2), .val (.int x)] [])) _
    refine XS.iloadN X0.here hx rfl (hb hby d5_87) rfl ?_
    show Steps p.tables e below (s₁.setTop (mkF m 88 #[.val (.int 2), .val (.int x)] [(.int x)])) _
    refine XS.bipush X0.here hx rfl (hb hby d5_88) ?_
    show Steps p.tables e below (s₁.setTop (mkF m 90 #[.val (.int 2), .val (.int x)] [(.int 95), (.int x)])) _
    refine XS.icmpNo X0.here hx rfl (hb hby d5_90) rfl (feq (own_nelo hlo_x (by decide) : ¬ (x = (95 : Int32)))).1 ?_
    show Steps p.tables e below (s₁.setTop (mkF m 93 #[.val (.int 2), .val (.int x)] [])) _
    refine XS.iloadN X0.here hx rfl (hb hby d5_93) rfl ?_
    show Steps p.tables e below (s₁.setTop (mkF m 94 #[.val (.int 2), .val (.int x)] [(.int x)])) _
    refine XS.bipush X0.here hx rfl (hb hby d5_94) ?_
    show Steps p.tables e below (s₁.setTop (mkF m 96 #[.val (.int 2), .val (.int x)] [(.int 97), (.int x)])) _
    refine XS.icmpNo X0.here hx rfl (hb hby d5_96) rfl (flt (own_nlt hlo_x (by decide) : ¬ (x < (97 : Int32)))).1 ?_
    show Steps p.tables e below (s₁.setTop (mkF m 99 #[.val (.int 2), .val (.int x)] [])) _
    refine XS.iloadN X0.here hx rfl (hb hby d5_99) rfl ?_
    show Steps p.tables e below (s₁.setTop (mkF m 100 #[.val (.int 2), .val (.int x)] [(.int x)])) _
    refine XS.bipush X0.here hx rfl (hb hby d5_100) ?_
    show Steps p.tables e below (s₁.setTop (mkF m 102 #[.val (.int 2), .val (.int x)] [(.int 122), (.int x)])) _
    refine XS.icmpYes X0.here hx rfl (pc0 := 102) (pc' := 109) rfl (hb hby d5_102) rfl (tlt (own_gt hlo_x (by decide) : (122 : Int32) < x)).2.2.1 (by decide) (by decide) ?_
    show Steps p.tables e below (s₁.setTop (mkF m 109 #[.val (.int 2), .val (.int x)] [])) _
    refine XS.iconst X0.here hx rfl (hb hby d5_109) ?_
    show Steps p.tables e below (s₁.setTop (mkF m 110 #[.val (.int 2), .val (.int x)] [(.int 0)])) _
    exact retN X0 hx (t := .boolean) Bd.returns (by simp) (hb hby d5_110) hr
  · show Q5_2_x_122_None_all_WORD Z x h0 n0 _ s₁.heap _
    rw [e0]
    exact ⟨(by rw [hret]), N0, rfl⟩
def Q5_all_WORD (Z : State) (x : Int32) (h0 : Heap) (n0 : Nat) (v : Option Value) (h : Heap) (L : List Loc) : Prop := v = some (.int (own_w x)) ∧ Fr n0 L ∧ h = h0
set_option maxRecDepth 65536 in
set_option maxHeartbeats 40000000 in
theorem rm5_all_WORD (l : Launch) (Z : State) (a0 : Array Value) (hw : ∀ d ∈ tables_1, d.before a0 Z = true) (ws : List Jvm.Cond) (x : Int32) (h0 : Heap) (n0 : Nat) (Z0 : n0 ≤ h0.size) :
    MetFree l (⟨"com/example/termwell/termwell/core/text/CharClassesPerlPinLaw", "expected", "(II)Z"⟩ : MethodName) (head1 (Jvm.Cond.code (⟨"com/example/termwell/termwell/core/text/CharClassesPerlPinLaw", "expected", "(II)Z"⟩ : MethodName) method_2_code 2 (some .boolean) :: ws) ({ frames := 0, cells := 0, slots := 0, locals := 0 } : Room)) (fun a U => a = #[(.int 2), (.int x)] ∧ Z.Warmed39 U.vm ∧ U.heap = h0) (fun _ _ _ _ _ => True) (fun _ U o U' => ∃ v L, o = .returned v ∧ Q5_all_WORD Z x h0 n0 v U'.heap L ∧ FrameEnd U o U' L ({ frames := 0, cells := 0, slots := 0, locals := 0 } : Room).cells ({ frames := 0, cells := 0, slots := 0, locals := 0 } : Room).slots) := by
  rcases (by omega : (x.toInt < 48) ∨ (47 < x.toInt ∧ x.toInt < 58) ∨ (57 < x.toInt ∧ x.toInt < 65) ∨ (64 < x.toInt ∧ x.toInt < 91) ∨ (90 < x.toInt ∧ x.toInt < 95) ∨ (x.toInt = 95) ∨ (x.toInt = 96) ∨ (96 < x.toInt ∧ x.toInt < 123) ∨ (122 < x.toInt)) with h | h | h | h | h | h | h | h | h
  · exact rm5_2_x_None_48_all_WORD l Z a0 hw ws x h0 n0 Z0 (own_ilt (by decide) h) (by unfold own_w; (repeat' split) <;> first | rfl | (exfalso; omega))
  · exact rm5_2_x_47_58_all_WORD l Z a0 hw ws x h0 n0 Z0 (own_igt (by decide) h.1) (own_ilt (by decide) h.2) (by unfold own_w; (repeat' split) <;> first | rfl | (exfalso; omega))
  · exact rm5_2_x_57_65_all_WORD l Z a0 hw ws x h0 n0 Z0 (own_igt (by decide) h.1) (own_ilt (by decide) h.2) (by unfold own_w; (repeat' split) <;> first | rfl | (exfalso; omega))
  · exact rm5_2_x_64_91_all_WORD l Z a0 hw ws x h0 n0 Z0 (own_igt (by decide) h.1) (own_ilt (by decide) h.2) (by unfold own_w; (repeat' split) <;> first | rfl | (exfalso; omega))
  · exact rm5_2_x_90_95_all_WORD l Z a0 hw ws x h0 n0 Z0 (own_igt (by decide) h.1) (own_ilt (by decide) h.2) (by unfold own_w; (repeat' split) <;> first | rfl | (exfalso; omega))
  · obtain rfl : x = (95 : Int32) := Int32.toInt_inj.mp (h.trans (by decide))
    exact rm5_2_95_all_WORD l Z a0 hw ws  h0 n0 Z0 (by decide)
  · obtain rfl : x = (96 : Int32) := Int32.toInt_inj.mp (h.trans (by decide))
    exact rm5_2_96_all_WORD l Z a0 hw ws  h0 n0 Z0 (by decide)
  · exact rm5_2_x_96_123_all_WORD l Z a0 hw ws x h0 n0 Z0 (own_igt (by decide) h.1) (own_ilt (by decide) h.2) (by unfold own_w; (repeat' split) <;> first | rfl | (exfalso; omega))
  · exact rm5_2_x_122_None_all_WORD l Z a0 hw ws x h0 n0 Z0 (own_igt (by decide) h) (by unfold own_w; (repeat' split) <;> first | rfl | (exfalso; omega))
def Q1_119 (Z : State) (w_WORD : Addr) (h0 : Heap) (n0 : Nat) (v : Option Value) (h : Heap) (L : List Loc) : Prop := v = some (.ref w_WORD) ∧ Fr n0 L ∧ h = h0
set_option maxRecDepth 65536 in
set_option maxHeartbeats 40000000 in
theorem rm1_119 (l : Launch) (Z : State) (a0 : Array Value) (hw : ∀ d ∈ tables_1, d.before a0 Z = true) (ws : List Jvm.Cond) (w_WORD : Addr) (h0 : Heap) (n0 : Nat) (Z0 : n0 ≤ h0.size) (S_WORD : Sta Z h0 "com/example/termwell/termwell/core/text/CharClasses" "WORD" "Lcom/example/termwell/termwell/core/text/CodePointSet;" (.ref w_WORD)) :
    MetFree l (⟨"com/example/termwell/termwell/core/text/CharClasses", "perl", "(C)Lcom/example/termwell/termwell/core/text/CodePointSet;"⟩ : MethodName) (head1 (Jvm.Cond.code (⟨"com/example/termwell/termwell/core/text/CharClasses", "perl", "(C)Lcom/example/termwell/termwell/core/text/CodePointSet;"⟩ : MethodName) prog_15_method_2_code 1 (some (.object "com/example/termwell/termwell/core/text/CodePointSet")) :: ws) ({ frames := 0, cells := 0, slots := 0, locals := 0 } : Room)) (fun a U => a = #[(.int 119)] ∧ Z.Warmed39 U.vm ∧ U.heap = h0) (fun _ _ _ _ _ => True) (fun _ U o U' => ∃ v L, o = .returned v ∧ Q1_119 Z w_WORD h0 n0 v U'.heap L ∧ FrameEnd U o U' L ({ frames := 0, cells := 0, slots := 0, locals := 0 } : Room).cells ({ frames := 0, cells := 0, slots := 0, locals := 0 } : Room).slots) := by
  refine MetFree.of_bodySF (plainFor_of_name pn_1) hisR ?_
  intro p e s m args below meth c s₁ Bd hml0 hP hK
  obtain ⟨rfl, hZ, hh⟩ := hP
  have hx := Bd.exec
  have hby := Bd.bytes
  have hml : c.maxLocals = 1 := hml0
  have hown : s.vm.findClass "com/example/termwell/termwell/core/text/CharClasses" = some m.cls := findClass_of_methodNamed Bd.named
  have hnm := (name_of_methodNamed Bd.named Bd.method).1
  have X0 : Stand p l e ({ frames := 0, cells := 0, slots := 0, locals := 0 } : Room) s m #[(.int 119)] below meth c s₁ [] 0 0 := Stand.of_body Bd
  have e0 : s₁.heap = h0 := by rw [← hh, Bd.state]; rfl
  have N0 := Fr.nil n0
  have pre0 : ∀ t, Steps p.tables e below (s₁.setTop (mkF m 0 #[.val (.int 119)] [])) t → Steps p.tables e below (s₁.setTop (entryFrame m #[(.int 119)] 1)) t := fun t k => castTop (by first | (simp [entryFrame, mkF, argsToLocals, Value.category]; done) | rfl) k
  obtain ⟨T1, X1, e1, st1⟩ := getS2 X0 hx hZ hown (host := "") (Or.inl (hw _ (List.mem_of_getElem? (i := 26) rfl))) Via.refl e0 S_WORD (g := (mkF m 48 #[.val (.int 119)] [])) rfl (hb hby d1_48)
  obtain ⟨fs, hr, hrun, hended, hW, hsame⟩ := X1.leave (v := some (.ref w_WORD)) (fun h => by rw [Bd.returns] at h; cases h)
  refine ⟨_, _, pre0 _ ?_, hrun, hended, _, _, rfl, ?_, ⟨_, rfl⟩, hW, hsame.mono (by decide) (by decide)⟩
  · show Steps p.tables e below (s₁.setTop (mkF m 0 #[.val (.int 119)] [])) _
    refine XS.iloadN X0.here hx rfl (hb hby d1_0) rfl ?_
    show Steps p.tables e below (s₁.setTop (mkF m 1 #[.val (.int 119)] [(.int 119)])) _
    refine X0.lookupswitchHit hx (g := (mkF m 1 #[.val (.int 119)] [(.int 119)])) rfl (k := (119 : Int32)) (rest := []) rfl (hb hby d1_1) (by decide) (a := 119) (off := 47) (by decide) (by show (0 : Int) ≤ ((1 : Nat) : Int) + 47; decide) _ ?_
    show Steps p.tables e below (s₁.setTop (mkF m 48 #[.val (.int 119)] [])) _
    refine st1 _ ?_
    show Steps p.tables e below (T1.setTop (mkF m 51 #[.val (.int 119)] [(.ref w_WORD)])) _
    refine XS.goto X1.here hx rfl (pc0 := 51) (pc' := 68) rfl (hb hby d1_51) (by decide) (by decide) ?_
    show Steps p.tables e below (T1.setTop (mkF m 68 #[.val (.int 119)] [(.ref w_WORD)])) _
    jvm_step X1.here [X1.here.top, hx, (hb hby d1_68), X1.method', Bd.returns, Value.isRef, FieldType.isReference]
    first | (intro acts; rw [hr _ acts rfl rfl rfl]) | rw [hr _ _ rfl rfl rfl]
    exact Steps.refl _
  · show Q1_119 Z w_WORD h0 n0 _ T1.heap _
    rw [e1]
    exact ⟨rfl, N0, rfl⟩
def Q0_k2 (Z : State) (p1 : Int32) (p2 : Int32) (w_WORD : Addr) (r_WORD : Addr) (k_WORD : ClassId) (h0 : Heap) (n0 : Nat) (v : Option Value) (h : Heap) (L : List Loc) : Prop := v = some (.int 1) ∧ Fr n0 L ∧ h = h0
set_option maxRecDepth 65536 in
set_option maxHeartbeats 40000000 in
theorem rm0_k2 (l : Launch) (Z : State) (a0 : Array Value) (hw : ∀ d ∈ tables_1, d.before a0 Z = true) (ws : List Jvm.Cond) (p1 : Int32) (p2 : Int32) (w_WORD : Addr) (r_WORD : Addr) (k_WORD : ClassId) (h0 : Heap) (n0 : Nat) (Z0 : n0 ≤ h0.size) (hk : ((p1 &&& (2147483647 : Int32)) % (3 : Int32)) = (2 : Int32)) (S_WORD : Sta Z h0 "com/example/termwell/termwell/core/text/CharClasses" "WORD" "Lcom/example/termwell/termwell/core/text/CodePointSet;" (.ref w_WORD)) (F_ranges_w_WORD : Fld Z h0 w_WORD "com/example/termwell/termwell/core/text/CodePointSet" "ranges" "[I" (.ref r_WORD)) (V_r_WORD : Arv Z h0 r_WORD k_WORD .int (8 : Int32) [(.int 48), (.int 57), (.int 65), (.int 90), (.int 95), (.int 95), (.int 97), (.int 122)] (.int (0 : Int32))) (E_w_WORD : Exa Z h0 w_WORD "com/example/termwell/termwell/core/text/CodePointSet") :
    MetFree l x (head1 (Jvm.Cond.code x code maxLocals ret :: ws) room_1) (fun a U => a = #[(.int p1), (.int p2)] ∧ Z.Warmed39 U.vm ∧ U.heap = h0) (fun _ _ _ _ _ => True) (fun _ U o U' => ∃ v L, o = .returned v ∧ Q0_k2 Z p1 p2 w_WORD r_WORD k_WORD h0 n0 v U'.heap L ∧ FrameEnd U o U' L room_1.cells room_1.slots) := by
  refine MetFree.of_bodySF (plainFor_of_name pn_0) hisR ?_
  intro p e s m args below meth c s₁ Bd hml0 hP hK
  obtain ⟨rfl, hZ, hh⟩ := hP
  have hx := Bd.exec
  have hby := Bd.bytes
  have hml : c.maxLocals = 8 := hml0
  have hown : s.vm.findClass "com/example/termwell/termwell/core/text/CharClassesPerlPinLaw" = some m.cls := findClass_of_methodNamed Bd.named
  have hnm := (name_of_methodNamed Bd.named Bd.method).1
  have X0 : Stand p l e room_1 s m #[(.int p1), (.int p2)] below meth c s₁ [] 0 0 := Stand.of_body Bd
  have e0 : s₁.heap = h0 := by rw [← hh, Bd.state]; rfl
  have N0 := Fr.nil n0
  have pre0 : ∀ t, Steps p.tables e below (s₁.setTop (mkF m 0 #[.val (.int p1), .val (.int p2), .unset, .unset, .unset, .unset, .unset, .unset] [])) t → Steps p.tables e below (s₁.setTop (entryFrame m #[(.int p1), (.int p2)] maxLocals)) t := fun t k => castTop (by first | (simp [entryFrame, mkF, argsToLocals, Value.category, maxLocals]; done) | rfl) k
  obtain ⟨_, _, ⟨T1, L1, k1, n1⟩, -, X1, ⟨Lc1, hQ1, l1, y1, z1⟩, st1⟩ := Jvm.LawKit.callS X0 hx (y := (⟨"com/example/termwell/termwell/core/text/CharClasses", "perl", "(C)Lcom/example/termwell/termwell/core/text/CodePointSet;"⟩ : MethodName)) hown (mvT hZ (hw _ (List.mem_of_getElem? (i := 1) rfl))) (mvT hZ (hw _ (List.mem_of_getElem? (i := 2) rfl))) (mvT hZ (hw _ (List.mem_of_getElem? (i := 3) rfl))) (mvT hZ (hw _ (List.mem_of_getElem? (i := 4) rfl))) (by decide) (backOf (W := 0) (rm1_119 l Z a0 hw [] w_WORD h0 n0 Z0 S_WORD) hZ (hw _ (List.mem_of_getElem? (i := 4) rfl)) (hw _ (List.mem_of_getElem? (i := 3) rfl)) (by decide) (by decide)) (g := (mkF m 30 #[.val (.int p1), .val (.int p2), .val (.int 2), .val (.int 119), .unset, .unset, .unset, .unset] [(.int 119)])) rfl (by rw [hml]; rfl) (argsL := [(.int 119)]) (rest := []) (lenOf pd__C_Lcom_example_termwell_termwell_core_text_CodePointSet_ rfl) rfl (by show 2 * 0 + _ ≤ _; exact Nat.le_of_eq rfl) (hb hby at_30) (fun _ _ => ⟨rfl, e0, (by decide : 0 + 0 ≤ _), (by decide : 0 + 0 ≤ _)⟩)
  dsimp only [Pt.U, Pt.locs, Pt.cells, Pt.slots] at X1 l1 y1 z1 st1 hQ1
  subst l1 y1 z1
  obtain ⟨rfl, N1q, e1⟩ := hQ1
  have N1 := Fr.app N0 N1q
  obtain ⟨cq2, kq2, q2a, q2b, q2c⟩ := isOf hZ e1 E_w_WORD
  obtain ⟨_, _, ⟨T2, L2, k2, n2⟩, -, X2, ⟨Lc2, hQ2, l2, y2, z2⟩, st2⟩ := X1.virtualBack hx (y := (⟨"com/example/termwell/termwell/core/text/CodePointSet", "contains", "(I)Z"⟩ : MethodName)) (z := (⟨"com/example/termwell/termwell/core/text/CodePointSet", "contains", "(I)Z"⟩ : MethodName)) hown (mvT hZ (hw _ (List.mem_of_getElem? (i := 7) rfl))) (mvT hZ (hw _ (List.mem_of_getElem? (i := 8) rfl))) (notFace_of_selects (args := #[]) (mvT hZ (hw _ (List.mem_of_getElem? (i := 10) rfl)))) (mvT hZ (hw _ (List.mem_of_getElem? (i := 10) rfl))) (mvT hZ (hw _ (List.mem_of_getElem? (i := 9) rfl))) (by decide) (backOf (W := 0) (rm2_all_WORD l Z a0 hw [] p2 w_WORD r_WORD k_WORD h0 n0 Z0 F_ranges_w_WORD V_r_WORD) hZ (hw _ (List.mem_of_getElem? (i := 12) rfl)) (hw _ (List.mem_of_getElem? (i := 11) rfl)) (by decide) (by decide)) q2a q2c (g := (mkF m 45 #[.val (.int p1), .val (.int p2), .val (.int 2), .val (.int 119), .val (.ref w_WORD), .val (.int (p2 &&& (255 : Int32))), .unset, .unset] [(.int p2), (.ref w_WORD)])) rfl (by rw [hml]; rfl) (Steps.refl _) (argsL := [(.int p2)]) (rest := []) (lenOf pd__I_Z rfl) rfl (by show 2 * 0 + _ ≤ _; exact Nat.le_of_eq rfl) (hb hby at_45) (fun _ _ => ⟨rfl, e1, (by decide : 0 + 0 ≤ _), (by decide : 0 + 0 ≤ _)⟩)
  dsimp only [Pt.U, Pt.locs, Pt.cells, Pt.slots] at X2 l2 y2 z2 st2 hQ2
  subst l2 y2 z2
  obtain ⟨rfl, N2q, e2⟩ := hQ2
  have N2 := Fr.app N1 N2q
  obtain ⟨_, _, ⟨T3, L3, k3, n3⟩, -, X3, ⟨Lc3, hQ3, l3, y3, z3⟩, st3⟩ := Jvm.LawKit.callS X2 hx (y := (⟨"com/example/termwell/termwell/core/text/CharClassesPerlPinLaw", "expected", "(II)Z"⟩ : MethodName)) hown (mvT hZ (hw _ (List.mem_of_getElem? (i := 22) rfl))) (mvT hZ (hw _ (List.mem_of_getElem? (i := 23) rfl))) (mvT hZ (hw _ (List.mem_of_getElem? (i := 24) rfl))) (mvT hZ (hw _ (List.mem_of_getElem? (i := 25) rfl))) (by decide) (backOf (W := 1) (rm5_all_WORD l Z a0 hw [] p2 h0 n0 Z0) hZ (hw _ (List.mem_of_getElem? (i := 25) rfl)) (hw _ (List.mem_of_getElem? (i := 24) rfl)) (by decide) (by decide)) (g := (mkF m 50 #[.val (.int p1), .val (.int p2), .val (.int 2), .val (.int 119), .val (.ref w_WORD), .val (.int (p2 &&& (255 : Int32))), .unset, .unset] [(.int p2), (.int 2), (.int (own_w p2))])) rfl (by rw [hml]; rfl) (argsL := [(.int 2), (.int p2)]) (rest := [(.int (own_w p2))]) (lenOf pd__II_Z rfl) rfl (by show 2 * 0 + _ ≤ _; exact Nat.le_of_eq rfl) (hb hby at_50) (fun _ _ => ⟨rfl, e2, (by decide : 0 + 0 ≤ _), (by decide : 0 + 0 ≤ _)⟩)
  dsimp only [Pt.U, Pt.locs, Pt.cells, Pt.slots] at X3 l3 y3 z3 st3 hQ3
  subst l3 y3 z3
  obtain ⟨rfl, N3q, e3⟩ := hQ3
  have N3 := Fr.app N2 N3q
  obtain ⟨cq4, kq4, q4a, q4b, q4c⟩ := isOf hZ e3 E_w_WORD
  obtain ⟨_, _, ⟨T4, L4, k4, n4⟩, -, X4, ⟨Lc4, hQ4, l4, y4, z4⟩, st4⟩ := X3.virtualBack hx (y := (⟨"com/example/termwell/termwell/core/text/CodePointSet", "contains", "(I)Z"⟩ : MethodName)) (z := (⟨"com/example/termwell/termwell/core/text/CodePointSet", "contains", "(I)Z"⟩ : MethodName)) hown (mvT hZ (hw _ (List.mem_of_getElem? (i := 7) rfl))) (mvT hZ (hw _ (List.mem_of_getElem? (i := 8) rfl))) (notFace_of_selects (args := #[]) (mvT hZ (hw _ (List.mem_of_getElem? (i := 10) rfl)))) (mvT hZ (hw _ (List.mem_of_getElem? (i := 10) rfl))) (mvT hZ (hw _ (List.mem_of_getElem? (i := 9) rfl))) (by decide) (backOf (W := 0) (rm2_all_WORD l Z a0 hw [] (p2 &&& (255 : Int32)) w_WORD r_WORD k_WORD h0 n0 Z0 F_ranges_w_WORD V_r_WORD) hZ (hw _ (List.mem_of_getElem? (i := 12) rfl)) (hw _ (List.mem_of_getElem? (i := 11) rfl)) (by decide) (by decide)) q4a q4c (g := (mkF m 67 #[.val (.int p1), .val (.int p2), .val (.int 2), .val (.int 119), .val (.ref w_WORD), .val (.int (p2 &&& (255 : Int32))), .val (.int 1), .unset] [(.int (p2 &&& (255 : Int32))), (.ref w_WORD)])) rfl (by rw [hml]; rfl) (Steps.refl _) (argsL := [(.int (p2 &&& (255 : Int32)))]) (rest := []) (lenOf pd__I_Z rfl) rfl (by show 2 * 0 + _ ≤ _; exact Nat.le_of_eq rfl) (hb hby at_67) (fun _ _ => ⟨rfl, e3, (by decide : 0 + 0 ≤ _), (by decide : 0 + 0 ≤ _)⟩)
  dsimp only [Pt.U, Pt.locs, Pt.cells, Pt.slots] at X4 l4 y4 z4 st4 hQ4
  subst l4 y4 z4
  obtain ⟨rfl, N4q, e4⟩ := hQ4
  have N4 := Fr.app N3 N4q
  obtain ⟨_, _, ⟨T5, L5, k5, n5⟩, -, X5, ⟨Lc5, hQ5, l5, y5, z5⟩, st5⟩ := Jvm.LawKit.callS X4 hx (y := (⟨"com/example/termwell/termwell/core/text/CharClassesPerlPinLaw", "expected", "(II)Z"⟩ : MethodName)) hown (mvT hZ (hw _ (List.mem_of_getElem? (i := 22) rfl))) (mvT hZ (hw _ (List.mem_of_getElem? (i := 23) rfl))) (mvT hZ (hw _ (List.mem_of_getElem? (i := 24) rfl))) (mvT hZ (hw _ (List.mem_of_getElem? (i := 25) rfl))) (by decide) (backOf (W := 1) (rm5_all_WORD l Z a0 hw [] (p2 &&& (255 : Int32)) h0 n0 Z0) hZ (hw _ (List.mem_of_getElem? (i := 25) rfl)) (hw _ (List.mem_of_getElem? (i := 24) rfl)) (by decide) (by decide)) (g := (mkF m 73 #[.val (.int p1), .val (.int p2), .val (.int 2), .val (.int 119), .val (.ref w_WORD), .val (.int (p2 &&& (255 : Int32))), .val (.int 1), .unset] [(.int (p2 &&& (255 : Int32))), (.int 2), (.int (own_w (p2 &&& (255 : Int32))))])) rfl (by rw [hml]; rfl) (argsL := [(.int 2), (.int (p2 &&& (255 : Int32)))]) (rest := [(.int (own_w (p2 &&& (255 : Int32))))]) (lenOf pd__II_Z rfl) rfl (by show 2 * 0 + _ ≤ _; exact Nat.le_of_eq rfl) (hb hby at_73) (fun _ _ => ⟨rfl, e4, (by decide : 0 + 0 ≤ _), (by decide : 0 + 0 ≤ _)⟩)
  dsimp only [Pt.U, Pt.locs, Pt.cells, Pt.slots] at X5 l5 y5 z5 st5 hQ5
  subst l5 y5 z5
  obtain ⟨rfl, N5q, e5⟩ := hQ5
  have N5 := Fr.app N4 N5q
  obtain ⟨fs, hr, hrun, hended, hW, hsame⟩ := X5.leave (v := some (.int 1)) (fun h => by rw [Bd.returns] at h; cases h)
  refine ⟨_, _, pre0 _ ?_, hrun, hended, _, _, rfl, ?_, ⟨_, rfl⟩, hW, hsame.mono (by decide) (by decide)⟩
  · show Steps p.tables e below (s₁.setTop (mkF m 0 #[.val (.int p1), .val (.int p2), .unset, .unset, .unset, .unset, .unset, .unset] [])) _
    refine XS.iloadN X0.here hx rfl (hb hby at_0) rfl ?_
    show Steps p.tables e below (s₁.setTop (mkF m 1 #[.val (.int p1), .val (.int p2), .unset, .unset, .unset, .unset, .unset, .unset] [(.int p1)])) _
    refine X0.ldcInt hx hown (mvT hZ (hw _ (List.mem_of_getElem? (i := 0) rfl))) (g := (mkF m 1 #[.val (.int p1), .val (.int p2), .unset, .unset, .unset, .unset, .unset, .unset] [(.int p1)])) rfl (hb hby at_1) _ ?_
    show Steps p.tables e below (s₁.setTop (mkF m 3 #[.val (.int p1), .val (.int p2), .unset, .unset, .unset, .unset, .unset, .unset] [(.int 2147483647), (.int p1)])) _
    refine XS.iand X0.here hx rfl (hb hby at_3) rfl ?_
    show Steps p.tables e below (s₁.setTop (mkF m 4 #[.val (.int p1), .val (.int p2), .unset, .unset, .unset, .unset, .unset, .unset] [(.int (p1 &&& (2147483647 : Int32)))])) _
    refine XS.iconst X0.here hx rfl (hb hby at_4) ?_
    show Steps p.tables e below (s₁.setTop (mkF m 5 #[.val (.int p1), .val (.int p2), .unset, .unset, .unset, .unset, .unset, .unset] [(.int 3), (.int (p1 &&& (2147483647 : Int32)))])) _
    refine iremM X0 hx rfl (hb hby at_5) rfl (by decide) ?_
    show Steps p.tables e below (s₁.setTop (mkF m 6 #[.val (.int p1), .val (.int p2), .unset, .unset, .unset, .unset, .unset, .unset] [(.int ((p1 &&& (2147483647 : Int32)) % (3 : Int32)))])) _
    rw [hk]
    show Steps p.tables e below (s₁.setTop (mkF m 6 #[.val (.int p1), .val (.int p2), .unset, .unset, .unset, .unset, .unset, .unset] [(.int 2)])) _
    refine XS.istoreN X0.here hx rfl (hb hby at_6) rfl (l' := #[.val (.int p1), .val (.int p2), .val (.int 2), .unset, .unset, .unset, .unset, .unset]) rfl ?_
    show Steps p.tables e below (s₁.setTop (mkF m 7 #[.val (.int p1), .val (.int p2), .val (.int 2), .unset, .unset, .unset, .unset, .unset] [])) _
    refine XS.iloadN X0.here hx rfl (hb hby at_7) rfl ?_
    show Steps p.tables e below (s₁.setTop (mkF m 8 #[.val (.int p1), .val (.int p2), .val (.int 2), .unset, .unset, .unset, .unset, .unset] [(.int 2)])) _
    refine XS.ifYes X0.here hx rfl (pc0 := 8) (pc' := 16) rfl (hb hby at_8) rfl ((if0 _ _).trans (feq (by decide : ¬ ((2 : Int32) = (0 : Int32)))).2) (by decide) (by decide) ?_
    show Steps p.tables e below (s₁.setTop (mkF m 16 #[.val (.int p1), .val (.int p2), .val (.int 2), .unset, .unset, .unset, .unset, .unset] [])) _
    refine XS.iloadN X0.here hx rfl (hb hby at_16) rfl ?_
    show Steps p.tables e below (s₁.setTop (mkF m 17 #[.val (.int p1), .val (.int p2), .val (.int 2), .unset, .unset, .unset, .unset, .unset] [(.int 2)])) _
    refine XS.iconst X0.here hx rfl (hb hby at_17) ?_
    show Steps p.tables e below (s₁.setTop (mkF m 18 #[.val (.int p1), .val (.int p2), .val (.int 2), .unset, .unset, .unset, .unset, .unset] [(.int 1), (.int 2)])) _
    refine XS.icmpYes X0.here hx rfl (pc0 := 18) (pc' := 26) rfl (hb hby at_18) rfl (feq (by decide : ¬ ((2 : Int32) = (1 : Int32)))).2 (by decide) (by decide) ?_
    show Steps p.tables e below (s₁.setTop (mkF m 26 #[.val (.int p1), .val (.int p2), .val (.int 2), .unset, .unset, .unset, .unset, .unset] [])) _
    refine XS.bipush X0.here hx rfl (hb hby at_26) ?_
    show Steps p.tables e below (s₁.setTop (mkF m 28 #[.val (.int p1), .val (.int p2), .val (.int 2), .unset, .unset, .unset, .unset, .unset] [(.int 119)])) _
    refine XS.istoreN X0.here hx rfl (hb hby at_28) rfl (l' := #[.val (.int p1), .val (.int p2), .val (.int 2), .val (.int 119), .unset, .unset, .unset, .unset]) rfl ?_
    show Steps p.tables e below (s₁.setTop (mkF m 29 #[.val (.int p1), .val (.int p2), .val (.int 2), .val (.int 119), .unset, .unset, .unset, .unset] [])) _
    refine XS.iloadN X0.here hx rfl (hb hby at_29) rfl ?_
    show Steps p.tables e below (s₁.setTop (mkF m 30 #[.val (.int p1), .val (.int p2), .val (.int 2), .val (.int 119), .unset, .unset, .unset, .unset] [(.int 119)])) _
    refine st1 _ ?_
    show Steps p.tables e below (T1.setTop (mkF m 33 #[.val (.int p1), .val (.int p2), .val (.int 2), .val (.int 119), .unset, .unset, .unset, .unset] [(.ref w_WORD)])) _
    refine XS.astore X1.here hx rfl (hb hby at_33) rfl rfl (l' := #[.val (.int p1), .val (.int p2), .val (.int 2), .val (.int 119), .val (.ref w_WORD), .unset, .unset, .unset]) rfl ?_
    show Steps p.tables e below (T1.setTop (mkF m 35 #[.val (.int p1), .val (.int p2), .val (.int 2), .val (.int 119), .val (.ref w_WORD), .unset, .unset, .unset] [])) _
    refine XS.iloadN X1.here hx rfl (hb hby at_35) rfl ?_
    show Steps p.tables e below (T1.setTop (mkF m 36 #[.val (.int p1), .val (.int p2), .val (.int 2), .val (.int 119), .val (.ref w_WORD), .unset, .unset, .unset] [(.int p2)])) _
    refine XS.sipush X1.here hx rfl (hb hby at_36) ?_
    show Steps p.tables e below (T1.setTop (mkF m 39 #[.val (.int p1), .val (.int p2), .val (.int 2), .val (.int 119), .val (.ref w_WORD), .unset, .unset, .unset] [(.int 255), (.int p2)])) _
    refine XS.iand X1.here hx rfl (hb hby at_39) rfl ?_
    show Steps p.tables e below (T1.setTop (mkF m 40 #[.val (.int p1), .val (.int p2), .val (.int 2), .val (.int 119), .val (.ref w_WORD), .unset, .unset, .unset] [(.int (p2 &&& (255 : Int32)))])) _
    refine XS.istore X1.here hx rfl (hb hby at_40) rfl (l' := #[.val (.int p1), .val (.int p2), .val (.int 2), .val (.int 119), .val (.ref w_WORD), .val (.int (p2 &&& (255 : Int32))), .unset, .unset]) rfl ?_
    show Steps p.tables e below (T1.setTop (mkF m 42 #[.val (.int p1), .val (.int p2), .val (.int 2), .val (.int 119), .val (.ref w_WORD), .val (.int (p2 &&& (255 : Int32))), .unset, .unset] [])) _
    refine XS.aload X1.here hx rfl (hb hby at_42) rfl rfl ?_
    show Steps p.tables e below (T1.setTop (mkF m 44 #[.val (.int p1), .val (.int p2), .val (.int 2), .val (.int 119), .val (.ref w_WORD), .val (.int (p2 &&& (255 : Int32))), .unset, .unset] [(.ref w_WORD)])) _
    refine XS.iloadN X1.here hx rfl (hb hby at_44) rfl ?_
    show Steps p.tables e below (T1.setTop (mkF m 45 #[.val (.int p1), .val (.int p2), .val (.int 2), .val (.int 119), .val (.ref w_WORD), .val (.int (p2 &&& (255 : Int32))), .unset, .unset] [(.int p2), (.ref w_WORD)])) _
    refine st2.trans ?_
    show Steps p.tables e below (T2.setTop (mkF m 48 #[.val (.int p1), .val (.int p2), .val (.int 2), .val (.int 119), .val (.ref w_WORD), .val (.int (p2 &&& (255 : Int32))), .unset, .unset] [(.int (own_w p2))])) _
    refine XS.iloadN X2.here hx rfl (hb hby at_48) rfl ?_
    show Steps p.tables e below (T2.setTop (mkF m 49 #[.val (.int p1), .val (.int p2), .val (.int 2), .val (.int 119), .val (.ref w_WORD), .val (.int (p2 &&& (255 : Int32))), .unset, .unset] [(.int 2), (.int (own_w p2))])) _
    refine XS.iloadN X2.here hx rfl (hb hby at_49) rfl ?_
    show Steps p.tables e below (T2.setTop (mkF m 50 #[.val (.int p1), .val (.int p2), .val (.int 2), .val (.int 119), .val (.ref w_WORD), .val (.int (p2 &&& (255 : Int32))), .unset, .unset] [(.int p2), (.int 2), (.int (own_w p2))])) _
    refine st3 _ ?_
    show Steps p.tables e below (T3.setTop (mkF m 53 #[.val (.int p1), .val (.int p2), .val (.int 2), .val (.int 119), .val (.ref w_WORD), .val (.int (p2 &&& (255 : Int32))), .unset, .unset] [(.int (own_w p2)), (.int (own_w p2))])) _
    refine XS.icmpNo X3.here hx rfl (hb hby at_53) rfl (teq (rfl : (own_w p2) = (own_w p2))).2 ?_
    show Steps p.tables e below (T3.setTop (mkF m 56 #[.val (.int p1), .val (.int p2), .val (.int 2), .val (.int 119), .val (.ref w_WORD), .val (.int (p2 &&& (255 : Int32))), .unset, .unset] [])) _
    refine XS.iconst X3.here hx rfl (hb hby at_56) ?_
    show Steps p.tables e below (T3.setTop (mkF m 57 #[.val (.int p1), .val (.int p2), .val (.int 2), .val (.int 119), .val (.ref w_WORD), .val (.int (p2 &&& (255 : Int32))), .unset, .unset] [(.int 1)])) _
    refine XS.goto X3.here hx rfl (pc0 := 57) (pc' := 61) rfl (hb hby at_57) (by decide) (by decide) ?_
    show Steps p.tables e below (T3.setTop (mkF m 61 #[.val (.int p1), .val (.int p2), .val (.int 2), .val (.int 119), .val (.ref w_WORD), .val (.int (p2 &&& (255 : Int32))), .unset, .unset] [(.int 1)])) _
    refine XS.istore X3.here hx rfl (hb hby at_61) rfl (l' := #[.val (.int p1), .val (.int p2), .val (.int 2), .val (.int 119), .val (.ref w_WORD), .val (.int (p2 &&& (255 : Int32))), .val (.int 1), .unset]) rfl ?_
    show Steps p.tables e below (T3.setTop (mkF m 63 #[.val (.int p1), .val (.int p2), .val (.int 2), .val (.int 119), .val (.ref w_WORD), .val (.int (p2 &&& (255 : Int32))), .val (.int 1), .unset] [])) _
    refine XS.aload X3.here hx rfl (hb hby at_63) rfl rfl ?_
    show Steps p.tables e below (T3.setTop (mkF m 65 #[.val (.int p1), .val (.int p2), .val (.int 2), .val (.int 119), .val (.ref w_WORD), .val (.int (p2 &&& (255 : Int32))), .val (.int 1), .unset] [(.ref w_WORD)])) _
    refine XS.iload X3.here hx rfl (hb hby at_65) rfl ?_
    show Steps p.tables e below (T3.setTop (mkF m 67 #[.val (.int p1), .val (.int p2), .val (.int 2), .val (.int 119), .val (.ref w_WORD), .val (.int (p2 &&& (255 : Int32))), .val (.int 1), .unset] [(.int (p2 &&& (255 : Int32))), (.ref w_WORD)])) _
    refine st4.trans ?_
    show Steps p.tables e below (T4.setTop (mkF m 70 #[.val (.int p1), .val (.int p2), .val (.int 2), .val (.int 119), .val (.ref w_WORD), .val (.int (p2 &&& (255 : Int32))), .val (.int 1), .unset] [(.int (own_w (p2 &&& (255 : Int32))))])) _
    refine XS.iloadN X4.here hx rfl (hb hby at_70) rfl ?_
    show Steps p.tables e below (T4.setTop (mkF m 71 #[.val (.int p1), .val (.int p2), .val (.int 2), .val (.int 119), .val (.ref w_WORD), .val (.int (p2 &&& (255 : Int32))), .val (.int 1), .unset] [(.int 2), (.int (own_w (p2 &&& (255 : Int32))))])) _
    refine XS.iload X4.here hx rfl (hb hby at_71) rfl ?_
    show Steps p.tables e below (T4.setTop (mkF m 73 #[.val (.int p1), .val (.int p2), .val (.int 2), .val (.int 119), .val (.ref w_WORD), .val (.int (p2 &&& (255 : Int32))), .val (.int 1), .unset] [(.int (p2 &&& (255 : Int32))), (.int 2), (.int (own_w (p2 &&& (255 : Int32))))])) _
    refine st5 _ ?_
    show Steps p.tables e below (T5.setTop (mkF m 76 #[.val (.int p1), .val (.int p2), .val (.int 2), .val (.int 119), .val (.ref w_WORD), .val (.int (p2 &&& (255 : Int32))), .val (.int 1), .unset] [(.int (own_w (p2 &&& (255 : Int32)))), (.int (own_w (p2 &&& (255 : Int32))))])) _
    refine XS.icmpNo X5.here hx rfl (hb hby at_76) rfl (teq (rfl : (own_w (p2 &&& (255 : Int32))) = (own_w (p2 &&& (255 : Int32))))).2 ?_
    show Steps p.tables e below (T5.setTop (mkF m 79 #[.val (.int p1), .val (.int p2), .val (.int 2), .val (.int 119), .val (.ref w_WORD), .val (.int (p2 &&& (255 : Int32))), .val (.int 1), .unset] [])) _
    refine XS.iconst X5.here hx rfl (hb hby at_79) ?_
    show Steps p.tables e below (T5.setTop (mkF m 80 #[.val (.int p1), .val (.int p2), .val (.int 2), .val (.int 119), .val (.ref w_WORD), .val (.int (p2 &&& (255 : Int32))), .val (.int 1), .unset] [(.int 1)])) _
    refine XS.goto X5.here hx rfl (pc0 := 80) (pc' := 84) rfl (hb hby at_80) (by decide) (by decide) ?_
    show Steps p.tables e below (T5.setTop (mkF m 84 #[.val (.int p1), .val (.int p2), .val (.int 2), .val (.int 119), .val (.ref w_WORD), .val (.int (p2 &&& (255 : Int32))), .val (.int 1), .unset] [(.int 1)])) _
    refine XS.istore X5.here hx rfl (hb hby at_84) rfl (l' := #[.val (.int p1), .val (.int p2), .val (.int 2), .val (.int 119), .val (.ref w_WORD), .val (.int (p2 &&& (255 : Int32))), .val (.int 1), .val (.int 1)]) rfl ?_
    show Steps p.tables e below (T5.setTop (mkF m 86 #[.val (.int p1), .val (.int p2), .val (.int 2), .val (.int 119), .val (.ref w_WORD), .val (.int (p2 &&& (255 : Int32))), .val (.int 1), .val (.int 1)] [])) _
    refine XS.iload X5.here hx rfl (hb hby at_86) rfl ?_
    show Steps p.tables e below (T5.setTop (mkF m 88 #[.val (.int p1), .val (.int p2), .val (.int 2), .val (.int 119), .val (.ref w_WORD), .val (.int (p2 &&& (255 : Int32))), .val (.int 1), .val (.int 1)] [(.int 1)])) _
    refine XS.ifNo X5.here hx rfl (hb hby at_88) rfl ((if0 _ _).trans (feq (by decide : ¬ ((1 : Int32) = (0 : Int32)))).1) ?_
    show Steps p.tables e below (T5.setTop (mkF m 91 #[.val (.int p1), .val (.int p2), .val (.int 2), .val (.int 119), .val (.ref w_WORD), .val (.int (p2 &&& (255 : Int32))), .val (.int 1), .val (.int 1)] [])) _
    refine XS.iload X5.here hx rfl (hb hby at_91) rfl ?_
    show Steps p.tables e below (T5.setTop (mkF m 93 #[.val (.int p1), .val (.int p2), .val (.int 2), .val (.int 119), .val (.ref w_WORD), .val (.int (p2 &&& (255 : Int32))), .val (.int 1), .val (.int 1)] [(.int 1)])) _
    refine XS.ifNo X5.here hx rfl (hb hby at_93) rfl ((if0 _ _).trans (feq (by decide : ¬ ((1 : Int32) = (0 : Int32)))).1) ?_
    show Steps p.tables e below (T5.setTop (mkF m 96 #[.val (.int p1), .val (.int p2), .val (.int 2), .val (.int 119), .val (.ref w_WORD), .val (.int (p2 &&& (255 : Int32))), .val (.int 1), .val (.int 1)] [])) _
    refine XS.iconst X5.here hx rfl (hb hby at_96) ?_
    show Steps p.tables e below (T5.setTop (mkF m 97 #[.val (.int p1), .val (.int p2), .val (.int 2), .val (.int 119), .val (.ref w_WORD), .val (.int (p2 &&& (255 : Int32))), .val (.int 1), .val (.int 1)] [(.int 1)])) _
    refine XS.goto X5.here hx rfl (pc0 := 97) (pc' := 101) rfl (hb hby at_97) (by decide) (by decide) ?_
    show Steps p.tables e below (T5.setTop (mkF m 101 #[.val (.int p1), .val (.int p2), .val (.int 2), .val (.int 119), .val (.ref w_WORD), .val (.int (p2 &&& (255 : Int32))), .val (.int 1), .val (.int 1)] [(.int 1)])) _
    exact retN X5 hx (t := .boolean) Bd.returns (by simp) (hb hby at_101) hr
  · show Q0_k2 Z p1 p2 w_WORD r_WORD k_WORD h0 n0 _ T5.heap _
    rw [e5]
    exact ⟨rfl, N5, rfl⟩
set_option maxRecDepth 65536 in
set_option maxHeartbeats 40000000 in
theorem comes_1 {Post : Tables → Env → Array Value → State → Outcome → State → Prop} (hpost : ∀ tb e args s v u, (limb_1_1.after args s (.returned v) u = true ∧ limb_1_2.after args s (.returned v) u = true ∧ True) → FrameEnd s (.returned v) u (Jvm.fieldLocs frame_1_writes args s ++ Jvm.arrayLocs frame_1_arrays args s ++ Jvm.staticLocs frame_1_statics s) 0 0 → Post tb e args s (.returned v) u) :
    ArmFor flags0 classFile x code maxLocals ret World_1 tables_1 room_1 Calls_1 rest_1 Pre_1 Post := by
  intro l hfl _ _ p e ha hc hk s m args below hf hA hF happ hP
  obtain ⟨hcalls, hrest, hpre⟩ := hP
  obtain ⟨-, -, -, hnamed, -, -, -, hat⟩ := (Spec.applies_iff hf).mp happ
  obtain ⟨hg, hn⟩ := and_e (Cond.before_iff.mp (show (Jvm.Cond.and given_1 narrow_1).before args s = true from hpre))
  obtain ⟨g1a, g1b⟩ := and_e hg
  obtain ⟨g2a, g2b⟩ := and_e g1b
  obtain ⟨w0, w1, rfl⟩ : ∃ w0 w1 : Value, args = #[w0, w1] := by
    have hs : args.size = 2 := by simpa [Cond.value, given_1] using g1a
    obtain ⟨L⟩ := args
    match L, hs with
    | [w0, w1], _ => exact ⟨w0, w1, rfl⟩
  have hw := fun d (hd : d ∈ tables_1) => atoms_spec (ws := Jvm.Cond.code x code maxLocals ret :: tables_1) hat d (List.mem_cons_of_mem _ hd)
  have hfit : Fit s := fun {y c} hc i hi => by
    obtain ⟨ha, rfl⟩ := Array.getElem?_eq_some_iff.mp hc
    have q := List.all_eq_true.mp ((Array.all_eq_true_iff_forall_mem.mp hF) _ (Array.getElem_mem ha)) i (List.mem_range.mpr hi)
    simpa [Array.getElem?_eq_getElem hi] using q
  obtain ⟨i0, ei0⟩ := is_v g2a
  obtain rfl : w0 = (.int i0) := Option.some.inj ei0
  obtain ⟨i1, ei1⟩ := is_v g2b
  obtain rfl : w1 = (.int i1) := Option.some.inj ei1
  obtain ⟨g3a, g3b⟩ := and_e hn
  obtain ⟨g4a, g4b⟩ := and_e g3b
  obtain ⟨g5a, g5b⟩ := and_e g4b
  obtain ⟨g6a, g6b⟩ := and_e g5b
  obtain ⟨g7a, g7b⟩ := and_e g6b
  obtain ⟨g8a, g8b⟩ := and_e g7b
  obtain ⟨g9a, g9b⟩ := and_e g8b
  obtain ⟨g10a, g10b⟩ := and_e g9b
  obtain ⟨g11a, g11b⟩ := and_e g10b
  obtain ⟨g12a, g12b⟩ := and_e g11b
  obtain ⟨g13a, g13b⟩ := and_e g12b
  obtain ⟨g14a, g14b⟩ := and_e g13b
  obtain ⟨g15a, g15b⟩ := and_e g14b
  obtain ⟨g16a, g16b⟩ := and_e g15b
  obtain ⟨g17a, g17b⟩ := and_e g16b
  obtain ⟨g18a, g18b⟩ := and_e g17b
  obtain ⟨g19a, g19b⟩ := and_e g18b
  obtain ⟨g20a, g20b⟩ := and_e g19b
  obtain ⟨g21a, g21b⟩ := and_e g20b
  obtain ⟨g22a, g22b⟩ := and_e g21b
  obtain ⟨g23a, g23b⟩ := and_e g22b
  obtain ⟨g24a, g24b⟩ := and_e g23b
  obtain ⟨g25a, g25b⟩ := and_e g24b
  obtain ⟨g26a, g26b⟩ := and_e g25b
  obtain ⟨w_DIGIT, ev_DIGIT⟩ := exa_v g3a
  have E_w_DIGIT : Exa s s.heap w_DIGIT "com/example/termwell/termwell/core/text/CodePointSet" := Exa.start ev_DIGIT g3a
  have S_DIGIT : Sta s s.heap "com/example/termwell/termwell/core/text/CharClasses" "DIGIT" "Lcom/example/termwell/termwell/core/text/CodePointSet;" (.ref w_DIGIT) := Sta.start ev_DIGIT (Or.inr ⟨(hw _ (List.mem_of_getElem? (i := 3) rfl)), (hw _ (List.mem_of_getElem? (i := 6) rfl))⟩)
  obtain ⟨w_WORD, ev_WORD⟩ := exa_v g7a
  have E_w_WORD : Exa s s.heap w_WORD "com/example/termwell/termwell/core/text/CodePointSet" := Exa.start ev_WORD g7a
  have S_WORD : Sta s s.heap "com/example/termwell/termwell/core/text/CharClasses" "WORD" "Lcom/example/termwell/termwell/core/text/CodePointSet;" (.ref w_WORD) := Sta.start ev_WORD (Or.inr ⟨(hw _ (List.mem_of_getElem? (i := 3) rfl)), (hw _ (List.mem_of_getElem? (i := 27) rfl))⟩)
  obtain ⟨w_SPACE, ev_SPACE⟩ := exa_v g11a
  have E_w_SPACE : Exa s s.heap w_SPACE "com/example/termwell/termwell/core/text/CodePointSet" := Exa.start ev_SPACE g11a
  have S_SPACE : Sta s s.heap "com/example/termwell/termwell/core/text/CharClasses" "SPACE" "Lcom/example/termwell/termwell/core/text/CodePointSet;" (.ref w_SPACE) := Sta.start ev_SPACE (Or.inr ⟨(hw _ (List.mem_of_getElem? (i := 3) rfl)), (hw _ (List.mem_of_getElem? (i := 29) rfl))⟩)
  obtain ⟨r_DIGIT, er_DIGIT⟩ := arr_v g4a
  have F_ranges_w_DIGIT : Fld s s.heap w_DIGIT "com/example/termwell/termwell/core/text/CodePointSet" "ranges" "[I" (.ref r_DIGIT) := own_fldR ev_DIGIT er_DIGIT
  obtain ⟨cl_DIGIT, A_DIGIT⟩ := Arr.start er_DIGIT g4a
  obtain ⟨q_DIGIT, l_DIGIT⟩ := own_len0 er_DIGIT A_DIGIT g5a
  have V_r_DIGIT : Arv s s.heap r_DIGIT cl_DIGIT.cls .int (2 : Int32) [(.int (48 : Int32)), (.int (57 : Int32))] (.int (0 : Int32)) := Arv.start hfit A_DIGIT q_DIGIT l_DIGIT (by decide) (by decide) ⟨own_elI er_DIGIT A_DIGIT g6a, own_elI er_DIGIT A_DIGIT g10a, trivial⟩
  obtain ⟨r_SPACE, er_SPACE⟩ := arr_v g12a
  have F_ranges_w_SPACE : Fld s s.heap w_SPACE "com/example/termwell/termwell/core/text/CodePointSet" "ranges" "[I" (.ref r_SPACE) := own_fldR ev_SPACE er_SPACE
  obtain ⟨cl_SPACE, A_SPACE⟩ := Arr.start er_SPACE g12a
  obtain ⟨q_SPACE, l_SPACE⟩ := own_len0 er_SPACE A_SPACE g13a
  have V_r_SPACE : Arv s s.heap r_SPACE cl_SPACE.cls .int (6 : Int32) [(.int (9 : Int32)), (.int (10 : Int32)), (.int (12 : Int32)), (.int (13 : Int32)), (.int (32 : Int32)), (.int (32 : Int32))] (.int (0 : Int32)) := Arv.start hfit A_SPACE q_SPACE l_SPACE (by decide) (by decide) ⟨own_elI er_SPACE A_SPACE g22a, own_elI er_SPACE A_SPACE g23a, own_elI er_SPACE A_SPACE g24a, own_elI er_SPACE A_SPACE g25a, own_elI er_SPACE A_SPACE g26a, own_elI er_SPACE A_SPACE g26b, trivial⟩
  obtain ⟨r_WORD, er_WORD⟩ := arr_v g8a
  have F_ranges_w_WORD : Fld s s.heap w_WORD "com/example/termwell/termwell/core/text/CodePointSet" "ranges" "[I" (.ref r_WORD) := own_fldR ev_WORD er_WORD
  obtain ⟨cl_WORD, A_WORD⟩ := Arr.start er_WORD g8a
  obtain ⟨q_WORD, l_WORD⟩ := own_len0 er_WORD A_WORD g9a
  have V_r_WORD : Arv s s.heap r_WORD cl_WORD.cls .int (8 : Int32) [(.int (48 : Int32)), (.int (57 : Int32)), (.int (65 : Int32)), (.int (90 : Int32)), (.int (95 : Int32)), (.int (95 : Int32)), (.int (97 : Int32)), (.int (122 : Int32))] (.int (0 : Int32)) := Arv.start hfit A_WORD q_WORD l_WORD (by decide) (by decide) ⟨own_elI er_WORD A_WORD g14a, own_elI er_WORD A_WORD g15a, own_elI er_WORD A_WORD g16a, own_elI er_WORD A_WORD g17a, own_elI er_WORD A_WORD g18a, own_elI er_WORD A_WORD g19a, own_elI er_WORD A_WORD g20a, own_elI er_WORD A_WORD g21a, trivial⟩
  have hm : (i0 &&& (2147483647 : Int32)).toInt = i0.toInt % (2 ^ 31 : Nat) := c_mask i0 2147483647 31 (by decide) (by decide)
  have hr : ((i0 &&& (2147483647 : Int32)) % (3 : Int32)).toInt = (i0 &&& (2147483647 : Int32)).toInt % 3 := (c_irem _ (3 : Int32) 3 (by decide)).1 (by omega)
  rcases own_split3 (x := ((i0 &&& (2147483647 : Int32)) % (3 : Int32))) (by omega) (by omega) with hk0 | hk0 | hk0
  · obtain ⟨n, o, h1, h2, h3, _, L, rfl, ⟨rfl, N, -⟩, hq⟩ := rm0_k0 l s _ hw tables_1 i0 i1 w_DIGIT r_DIGIT cl_DIGIT.cls s.heap s.heap.size (Nat.le_refl _) hk0 S_DIGIT F_ranges_w_DIGIT V_r_DIGIT E_w_DIGIT p e ha hc hk s m _ below hf ((Spec.applies_iff_loose hf).mp happ).1 ⟨rfl, State.Warmed39.refl s, rfl⟩ trivial
    exact ⟨n, _, h1, h2, h3, hpost _ _ _ _ _ _ ⟨Cond.after_iff.mpr rfl, Cond.after_iff.mpr (eq_i res_at (Term.int_eval (1)) rfl), trivial⟩ ⟨hq.1, hq.2.1, (hq.2.2.sift fun y hy => Or.inr (N y hy)).mono (by decide) (by decide)⟩⟩
  · obtain ⟨n, o, h1, h2, h3, _, L, rfl, ⟨rfl, N, -⟩, hq⟩ := rm0_k1 l s _ hw tables_1 i0 i1 w_SPACE r_SPACE cl_SPACE.cls s.heap s.heap.size (Nat.le_refl _) hk0 S_SPACE F_ranges_w_SPACE V_r_SPACE E_w_SPACE p e ha hc hk s m _ below hf ((Spec.applies_iff_loose hf).mp happ).1 ⟨rfl, State.Warmed39.refl s, rfl⟩ trivial
    exact ⟨n, _, h1, h2, h3, hpost _ _ _ _ _ _ ⟨Cond.after_iff.mpr rfl, Cond.after_iff.mpr (eq_i res_at (Term.int_eval (1)) rfl), trivial⟩ ⟨hq.1, hq.2.1, (hq.2.2.sift fun y hy => Or.inr (N y hy)).mono (by decide) (by decide)⟩⟩
  · obtain ⟨n, o, h1, h2, h3, _, L, rfl, ⟨rfl, N, -⟩, hq⟩ := rm0_k2 l s _ hw tables_1 i0 i1 w_WORD r_WORD cl_WORD.cls s.heap s.heap.size (Nat.le_refl _) hk0 S_WORD F_ranges_w_WORD V_r_WORD E_w_WORD p e ha hc hk s m _ below hf ((Spec.applies_iff_loose hf).mp happ).1 ⟨rfl, State.Warmed39.refl s, rfl⟩ trivial
    exact ⟨n, _, h1, h2, h3, hpost _ _ _ _ _ _ ⟨Cond.after_iff.mpr rfl, Cond.after_iff.mpr (eq_i res_at (Term.int_eval (1)) rfl), trivial⟩ ⟨hq.1, hq.2.1, (hq.2.2.sift fun y hy => Or.inr (N y hy)).mono (by decide) (by decide)⟩⟩
theorem main_1_1 : Claimed_1_1 := comes_1 fun _ _ _ _ _ _ h hF => ⟨h.1, hF⟩
theorem main_1_2 : Claimed_1_2 := comes_1 fun _ _ _ _ _ _ h hF => ⟨h.2.1, hF⟩
end Jvm.Pilot.@@N@@
namespace Jvm.Pilot.@@N@@
open Jvm Jvm.ClassFile Sem Op Lib Jvm.Free Jvm.Stand Jvm.Pilot.@@N@@.Jvm.D
/-! MADE BY PROGRAM (witnessworld.py) out of the Statement's table words and the real class files: 11 classes; the members and pool entries that the words name. The judged class is class 1, her method 2. -/
namespace start1
open Jvm.ClassFile
def u (s : String) : CpInfo := .utf8 (stringToUtf16 s)
/-- a pool by its gaps: so many unusable entries, then the entry; so many at the end -/
def gap : Nat → List CpInfo → List CpInfo
  | 0, r => r
  | n + 1, r => .unusable :: gap n r
def poolList (es : List (Nat × CpInfo)) (last : Nat) : List CpInfo := es.foldr (fun e r => gap e.1 (e.2 :: r)) (gap last [])
def pool (es : List (Nat × CpInfo)) (last : Nat) : Array CpInfo := ⟨poolList es last⟩
def fileOf (pool : Array CpInfo) (this : Nat) (attrs : Array Attribute := #[]) (ms : Array MethodInfo := #[]) (fl : Nat := 33) (sup : Nat := 0) (ifs : Array Nat := #[]) (fds : Array FieldInfo := #[]) : ClassFile where
  minorVersion := 0
  majorVersion := 65
  constantPool := pool
  accessFlags := fl
  thisClass := this
  superClass := sup
  interfaces := ifs
  fields := fds
  methods := ms
  attributes := attrs
def plain (name : String) (sup : Option ClassId) : Class where
  name := name
  kind := .ordinary
  loader := none
  accessFlags := 33
  super := sup
  interfaces := #[]
  cf := none
  fields := #[]
  methods := #[]
  instanceTypes := #[]
  staticTypes := #[]
  resolved := #[]
  callSites := []
  init := .initialized
  statics := none
  mirror := none

def pool0 : Array CpInfo := pool [(5, u "<init>"), (0, u "()V"), (1, .class_ 10), (1, u "java/lang/Object")] 113

def k0m0 : Method := { name := "<init>", desc := "()V", sig := { parameters := [], returnType := none }, accessFlags := 1, code := none }
/-- java/lang/Object -/
def k0 : Class := { plain "java/lang/Object" none with
  accessFlags := 33
  interfaces := #[]
  cf := some (fileOf pool0 8 #[] #[{ accessFlags := 1, nameIndex := 5, descriptorIndex := 6, attributes := #[] }] 33 0 #[] #[])
  fields := #[]
  methods := #[k0m0]
  instanceTypes := #[]
  staticTypes := #[]
  resolved := Array.replicate 124 none
  statics := none }

def pool1 : Array CpInfo := pool [(2, .class_ 4), (1, u "java/lang/Object"), (0, u "<init>"), (0, u "()V"), (0, .integer 2147483647), (0, .methodref 9 10), (0, .class_ 11), (0, .nameAndType 12 13), (0, u "com/example/termwell/termwell/core/text/CharClasses"), (0, u "perl"), (0, u "(C)Lcom/example/termwell/termwell/core/text/CodePointSet;"), (0, .methodref 15 16), (0, .class_ 17), (0, .nameAndType 18 19), (0, u "com/example/termwell/termwell/core/text/CodePointSet"), (0, u "contains"), (0, u "(I)Z"), (0, .methodref 21 22), (0, .class_ 23), (0, .nameAndType 24 25), (0, u "com/example/termwell/termwell/core/text/CharClassesPerlPinLaw"), (0, u "expected"), (0, u "(II)Z"), (3, u "law")] 2

def k1m0 : Method := { name := "<init>", desc := "()V", sig := { parameters := [], returnType := none }, accessFlags := 2, code := none }
def k1c1 : Code := { maxStack := 2, maxLocals := 2, code := method_2_code, exceptionTable := #[], attributes := #[] }
def k1m1 : Method := { name := "expected", desc := "(II)Z", sig := { parameters := [.int, .int], returnType := some .boolean }, accessFlags := 10, code := some k1c1 }
def k1c2 : Code := { maxStack := 3, maxLocals := 8, code := code, exceptionTable := #[], attributes := #[] }
def k1m2 : Method := { name := "law", desc := "(II)Z", sig := { parameters := [.int, .int], returnType := some .boolean }, accessFlags := 9, code := some k1c2 }
/-- com/example/termwell/termwell/core/text/CharClassesPerlPinLaw -/
def k1 : Class := { plain "com/example/termwell/termwell/core/text/CharClassesPerlPinLaw" (some 0) with
  accessFlags := 49
  interfaces := #[]
  cf := some (fileOf pool1 21 #[] #[{ accessFlags := 2, nameIndex := 5, descriptorIndex := 6, attributes := #[] }, { accessFlags := 10, nameIndex := 24, descriptorIndex := 25, attributes := #[] }, { accessFlags := 9, nameIndex := 29, descriptorIndex := 25, attributes := #[] }] 49 2 #[] #[])
  fields := #[]
  methods := #[k1m0, k1m1, k1m2]
  instanceTypes := #[]
  staticTypes := #[]
  resolved := Array.replicate 32 none
  statics := none }

def pool2 : Array CpInfo := pool [(2, .class_ 4), (1, u "java/lang/Object"), (0, u "<init>"), (0, u "()V"), (0, .fieldref 8 9), (0, .class_ 10), (0, .nameAndType 11 12), (0, u "com/example/termwell/termwell/core/text/CharClasses"), (0, u "DIGIT"), (0, u "Lcom/example/termwell/termwell/core/text/CodePointSet;"), (0, .fieldref 8 14), (0, .nameAndType 15 12), (0, u "SPACE"), (0, .fieldref 8 17), (0, .nameAndType 18 12), (0, u "WORD"), (11, u "POSIX"), (0, u "Ljava/util/Map;"), (18, u "ANY"), (1, .class_ 54), (1, u "com/example/termwell/termwell/core/text/CharClasses$Unicode"), (34, .class_ 91), (1, u "com/example/termwell/termwell/core/text/CharClasses$Orbits"), (58, u "NOT_NEWLINE"), (45, u "perl"), (0, u "(C)Lcom/example/termwell/termwell/core/text/CodePointSet;")] 33

def k2m0 : Method := { name := "<init>", desc := "()V", sig := { parameters := [], returnType := none }, accessFlags := 2, code := none }
def k2c1 : Code := { maxStack := 3, maxLocals := 1, code := prog_15_method_2_code, exceptionTable := #[], attributes := #[] }
def k2m1 : Method := { name := "perl", desc := "(C)Lcom/example/termwell/termwell/core/text/CodePointSet;", sig := { parameters := [.char], returnType := some (.object "com/example/termwell/termwell/core/text/CodePointSet") }, accessFlags := 8, code := some k2c1 }
/-- com/example/termwell/termwell/core/text/CharClasses -/
def k2 : Class := { plain "com/example/termwell/termwell/core/text/CharClasses" (some 0) with
  accessFlags := 48
  interfaces := #[]
  cf := some (fileOf pool2 8 #[.nestMembers #[89, 52]] #[{ accessFlags := 2, nameIndex := 5, descriptorIndex := 6, attributes := #[] }, { accessFlags := 8, nameIndex := 196, descriptorIndex := 197, attributes := #[] }] 48 2 #[] #[{ accessFlags := 24, nameIndex := 50, descriptorIndex := 12, attributes := #[] }, { accessFlags := 24, nameIndex := 150, descriptorIndex := 12, attributes := #[] }, { accessFlags := 24, nameIndex := 11, descriptorIndex := 12, attributes := #[] }, { accessFlags := 24, nameIndex := 15, descriptorIndex := 12, attributes := #[] }, { accessFlags := 24, nameIndex := 18, descriptorIndex := 12, attributes := #[] }, { accessFlags := 26, nameIndex := 30, descriptorIndex := 31, attributes := #[] }])
  fields := #[{ name := "ANY", type := (.object "com/example/termwell/termwell/core/text/CodePointSet"), accessFlags := 24, slot := 0, constantValue := 0 }, { name := "NOT_NEWLINE", type := (.object "com/example/termwell/termwell/core/text/CodePointSet"), accessFlags := 24, slot := 1, constantValue := 0 }, { name := "DIGIT", type := (.object "com/example/termwell/termwell/core/text/CodePointSet"), accessFlags := 24, slot := 2, constantValue := 0 }, { name := "SPACE", type := (.object "com/example/termwell/termwell/core/text/CodePointSet"), accessFlags := 24, slot := 3, constantValue := 0 }, { name := "WORD", type := (.object "com/example/termwell/termwell/core/text/CodePointSet"), accessFlags := 24, slot := 4, constantValue := 0 }, { name := "POSIX", type := (.object "java/util/Map"), accessFlags := 26, slot := 5, constantValue := 0 }]
  methods := #[k2m0, k2m1]
  instanceTypes := #[]
  staticTypes := #[(.object "com/example/termwell/termwell/core/text/CodePointSet"), (.object "com/example/termwell/termwell/core/text/CodePointSet"), (.object "com/example/termwell/termwell/core/text/CodePointSet"), (.object "com/example/termwell/termwell/core/text/CodePointSet"), (.object "com/example/termwell/termwell/core/text/CodePointSet"), (.object "java/util/Map")]
  resolved := Array.replicate 231 none
  statics := some 0 }

def pool3 : Array CpInfo := pool [(2, .class_ 4), (1, u "java/lang/Object"), (2, .fieldref 8 9), (0, .class_ 10), (0, .nameAndType 11 12), (0, u "com/example/termwell/termwell/core/text/CodePointSet"), (0, u "ranges"), (0, u "[I"), (1, .class_ 16), (1, u "java/util/Arrays"), (4, u "hash"), (0, u "I"), (19, .methodref 14 43), (0, .nameAndType 44 45), (0, u "binarySearch"), (0, u "([II)I"), (15, u "EMPTY"), (0, u "Lcom/example/termwell/termwell/core/text/CodePointSet;"), (2, u "ALL"), (7, u "contains"), (0, u "(I)Z")] 13

def k3c0 : Code := { maxStack := 2, maxLocals := 3, code := prog_19_method_4_code, exceptionTable := #[], attributes := #[] }
def k3m0 : Method := { name := "contains", desc := "(I)Z", sig := { parameters := [.int], returnType := some .boolean }, accessFlags := 0, code := some k3c0 }
/-- com/example/termwell/termwell/core/text/CodePointSet -/
def k3 : Class := { plain "com/example/termwell/termwell/core/text/CodePointSet" (some 0) with
  accessFlags := 48
  interfaces := #[]
  cf := some (fileOf pool3 8 #[] #[{ accessFlags := 0, nameIndex := 73, descriptorIndex := 74, attributes := #[] }] 48 2 #[] #[{ accessFlags := 24, nameIndex := 61, descriptorIndex := 62, attributes := #[] }, { accessFlags := 24, nameIndex := 65, descriptorIndex := 62, attributes := #[] }, { accessFlags := 18, nameIndex := 11, descriptorIndex := 12, attributes := #[] }, { accessFlags := 18, nameIndex := 21, descriptorIndex := 22, attributes := #[] }])
  fields := #[{ name := "EMPTY", type := (.object "com/example/termwell/termwell/core/text/CodePointSet"), accessFlags := 24, slot := 0, constantValue := 0 }, { name := "ALL", type := (.object "com/example/termwell/termwell/core/text/CodePointSet"), accessFlags := 24, slot := 1, constantValue := 0 }, { name := "ranges", type := (.array .int), accessFlags := 18, slot := 0, constantValue := 0 }, { name := "hash", type := .int, accessFlags := 18, slot := 1, constantValue := 0 }]
  methods := #[k3m0]
  instanceTypes := #[(.array .int), .int]
  staticTypes := #[(.object "com/example/termwell/termwell/core/text/CodePointSet"), (.object "com/example/termwell/termwell/core/text/CodePointSet")]
  resolved := Array.replicate 88 none
  statics := none }

def pool4 : Array CpInfo := pool [(2, .class_ 4), (1, u "java/lang/Object"), (0, u "<init>"), (0, u "()V"), (7, .class_ 16), (1, u "java/util/Arrays"), (57, .class_ 76), (1, u "java/util/Arrays$NaturalOrder"), (36, .class_ 115), (1, u "java/util/Arrays$LegacyMergeSort"), (1, u "Z"), (89, u "binarySearch0"), (1, .methodref 14 210), (0, .nameAndType 207 211), (0, u "([IIII)I"), (163, .class_ 376), (0, u "java/util/Arrays$ArrayList"), (68, u "$assertionsDisabled"), (269, u "MIN_ARRAY_SORT_GRAN"), (0, u "I"), (2, u "INSERTIONSORT_THRESHOLD"), (74, u "binarySearch"), (4, u "([II)I"), (175, .class_ 976), (0, u "java/util/Arrays$ArrayItr")] 52

def k4m0 : Method := { name := "<init>", desc := "()V", sig := { parameters := [], returnType := none }, accessFlags := 2, code := none }
def k4c1 : Code := { maxStack := 4, maxLocals := 2, code := jdk_65_method_57_code, exceptionTable := #[], attributes := #[] }
def k4m1 : Method := { name := "binarySearch", desc := "([II)I", sig := { parameters := [(.array .int), .int], returnType := some .int }, accessFlags := 9, code := some k4c1 }
def k4c2 : Code := { maxStack := 2, maxLocals := 8, code := jdk_65_method_59_code, exceptionTable := #[], attributes := #[] }
def k4m2 : Method := { name := "binarySearch0", desc := "([IIII)I", sig := { parameters := [(.array .int), .int, .int, .int], returnType := some .int }, accessFlags := 10, code := some k4c2 }
/-- java/util/Arrays -/
def k4 : Class := { plain "java/util/Arrays" (some 0) with
  accessFlags := 49
  interfaces := #[]
  cf := some (fileOf pool4 14 #[.nestMembers #[975, 375, 113, 74]] #[{ accessFlags := 2, nameIndex := 5, descriptorIndex := 6, attributes := #[] }, { accessFlags := 9, nameIndex := 794, descriptorIndex := 799, attributes := #[] }, { accessFlags := 10, nameIndex := 207, descriptorIndex := 211, attributes := #[] }] 49 2 #[] #[{ accessFlags := 26, nameIndex := 715, descriptorIndex := 716, attributes := #[] }, { accessFlags := 26, nameIndex := 719, descriptorIndex := 716, attributes := #[] }, { accessFlags := 4120, nameIndex := 445, descriptorIndex := 117, attributes := #[] }])
  fields := #[{ name := "MIN_ARRAY_SORT_GRAN", type := .int, accessFlags := 26, slot := 0, constantValue := 0 }, { name := "INSERTIONSORT_THRESHOLD", type := .int, accessFlags := 26, slot := 1, constantValue := 0 }, { name := "$assertionsDisabled", type := .boolean, accessFlags := 4120, slot := 2, constantValue := 0 }]
  methods := #[k4m0, k4m1, k4m2]
  instanceTypes := #[]
  staticTypes := #[.int, .int, .boolean]
  resolved := Array.replicate 1029 none
  statics := none }

def pool5 : Array CpInfo := pool [(1, u "java/lang/Cloneable"), (0, .class_ 1), (0, u "java/lang/Object"), (0, .class_ 3)] 3

/-- java/lang/Cloneable -/
def k5 : Class := { plain "java/lang/Cloneable" (some 0) with
  accessFlags := 1537
  interfaces := #[]
  cf := some (fileOf pool5 2 #[] #[] 1537 4 #[] #[])
  fields := #[]
  methods := #[]
  instanceTypes := #[]
  staticTypes := #[]
  resolved := Array.replicate 8 none
  statics := none }

def pool6 : Array CpInfo := pool [(1, u "java/io/Serializable"), (0, .class_ 1), (0, u "java/lang/Object"), (0, .class_ 3)] 3

/-- java/io/Serializable -/
def k6 : Class := { plain "java/io/Serializable" (some 0) with
  accessFlags := 1537
  interfaces := #[]
  cf := some (fileOf pool6 2 #[] #[] 1537 4 #[] #[])
  fields := #[]
  methods := #[]
  instanceTypes := #[]
  staticTypes := #[]
  resolved := Array.replicate 8 none
  statics := none }

/-- the primitive byte -/
def k7 : Class := { plain "byte" none with kind := .primitive 'B', accessFlags := 0x411 }
/-- [B -/
def k8 : Class := { plain "[B" (some 0) with kind := .array 7 .byte, interfaces := #[5, 6], accessFlags := 1041 }

/-- the primitive int -/
def k9 : Class := { plain "int" none with kind := .primitive 'I', accessFlags := 0x411 }
/-- [I -/
def k10 : Class := { plain "[I" (some 0) with kind := .array 9 .int, interfaces := #[5, 6], accessFlags := 1041 }

def heap : Heap := #[{ cls := 2, slots := #[.null, .null, .ref 1, .ref 3, .ref 2, .null], vm := .statics 2 },
  { cls := 3, slots := #[.ref 4, .int 0], vm := .none },
  { cls := 3, slots := #[.ref 5, .int 0], vm := .none },
  { cls := 3, slots := #[.ref 6, .int 0], vm := .none },
  { cls := 10, slots := #[.int 48, .int 57], vm := .none },
  { cls := 10, slots := #[.int 48, .int 57, .int 65, .int 90, .int 95, .int 95, .int 97, .int 122], vm := .none },
  { cls := 10, slots := #[.int 9, .int 10, .int 12, .int 13, .int 32, .int 32], vm := .none }]
def classes : Array Class := #[k0, k1, k2, k3, k4, k5, k6, k7, k8, k9, k10]
def interned : List (Array UInt16 × Addr) := []
def slotsUsed : Nat := 28
def theMethod : MethodId := ⟨1, 2⟩
def args0 : Array Value := #[.int 5, .int 50]
def aboutOver (below : List Frame) : State where
  vm := { classes := classes, interned := interned.toArray }
  heap := heap
  slotsUsed := slotsUsed
  threads := #[{ frames := .invoking theMethod args0 :: below }]
def below0 : List Frame := [.native { method := ⟨0, 0⟩, args := #[] }]
def about1 : State := aboutOver below0
def p0 : Program := .bare "" "" ""
def e0 : Env := launch0.env 0 0 0
theorem w_frames : about1.frames = Frame.invoking theMethod args0 :: below0 := rfl
set_option maxRecDepth 65536 in
theorem w_args : argsFit about1.vm theMethod args0 = true := by decide +kernel
set_option maxRecDepth 65536 in
theorem w_heap : heapFits about1 = true := by decide +kernel
set_option maxRecDepth 65536 in
theorem w_runnable : about1.curStatus? = some .runnable := by decide +kernel
set_option maxRecDepth 65536 in
theorem w_alone : about1.alone = true := by decide +kernel
set_option maxRecDepth 65536 in
theorem w_named : about1.methodNamed? x = some theMethod := by decide +kernel
set_option maxRecDepth 65536 in
theorem w_hears : about1.hears theMethod below0 = true := by decide +kernel
set_option maxRecDepth 65536 in
theorem w_ripe : about1.ripe theMethod args0 below0 = true := by decide +kernel
theorem w_running : about1.status = .running := rfl
set_option maxRecDepth 65536 in
theorem w_room : about1.hasRoom e0.platform room_1 = true :=
  launch0.hasRoom_least _ room_1 (by decide +kernel) (by decide +kernel) (by decide +kernel) (by decide +kernel) (by decide +kernel) (by decide +kernel)
theorem allAtoms_all (ts : List Jvm.Cond) (a : Array Jvm.Value) (st : Jvm.State) : (allAtoms ts).before a st = ts.all (fun c => c.before a st) := by
  induction ts with
  | nil => rfl
  | cons c t ih =>
    show (Jvm.Cond.and c (allAtoms t)).before a st = _
    rw [Jvm.Cond.before_and, ih, List.all_cons]
def words1 : List Jvm.Cond := Jvm.Cond.code x code maxLocals ret :: tables_1
/-- a 'code' word, met by the world's own term for the bytes: nothing is compared byte by byte -/
theorem code_word {y : MethodName} {bytes : ByteArray} {mx : Nat} {rt : Option FieldType} {a : Array Value} {s : State} {m : MethodId} {meth : Method} {c : Code} (h1 : s.methodNamed? y = some m) (h2 : s.vm.method? m = some meth) (h3 : meth.code = some c) (h4 : c.code = bytes)
    (h5 : (c.maxLocals == mx && c.exceptionTable.isEmpty && decide (c.maxStack ≤ mostOperands) && decide (meth.sig.returnType = rt) && !meth.locks && decide (parseMethodDescriptor y.desc = some meth.sig)) = true) : (Jvm.Cond.code y bytes mx rt).before a s = true := by
  simp only [Bool.and_eq_true, beq_iff_eq, Bool.not_eq_true', decide_eq_true_eq] at h5
  obtain ⟨⟨⟨⟨⟨g1, g2⟩, g3⟩, g4⟩, g5⟩, g6⟩ := h5
  simp [Cond.before, Cond.holds, Cond.value, h1, h2, h3, h4, g1, g2, g3, g4, g5, g6]
def isCode : Jvm.Cond → Bool
  | .code _ _ _ _ => true
  | _ => false
theorem all_split {L : List Jvm.Cond} {P : Jvm.Cond → Bool} (h1 : L.all (fun c => isCode c || P c) = true) (h2 : ∀ c ∈ L.filter isCode, P c = true) : L.all P = true := by
  refine List.all_eq_true.mpr fun c hc => ?_
  have h := List.all_eq_true.mp h1 c hc
  rcases Bool.eq_false_or_eq_true (isCode c) with hi | hi
  · exact h2 c (List.mem_filter.mpr ⟨hc, hi⟩)
  · simpa [hi] using h
set_option maxRecDepth 65536 in
theorem w_c0 : (Jvm.Cond.code x code maxLocals ret).before args0 about1 = true := code_word (m := ⟨1, 2⟩) (meth := k1m2) (c := k1c2) (by decide +kernel) rfl rfl rfl (by decide +kernel)
set_option maxRecDepth 65536 in
theorem w_c1 : (Jvm.Cond.code ({ cls := "com/example/termwell/termwell/core/text/CharClasses", name := "perl", desc := "(C)Lcom/example/termwell/termwell/core/text/CodePointSet;" } : Jvm.MethodName) prog_15_method_2_code (1 : Nat) (Option.some (Jvm.ClassFile.FieldType.object "com/example/termwell/termwell/core/text/CodePointSet"))).before args0 about1 = true := code_word (m := ⟨2, 1⟩) (meth := k2m1) (c := k2c1) (by decide +kernel) rfl rfl rfl (by decide +kernel)
set_option maxRecDepth 65536 in
theorem w_c2 : (Jvm.Cond.code ({ cls := "com/example/termwell/termwell/core/text/CodePointSet", name := "contains", desc := "(I)Z" } : Jvm.MethodName) prog_19_method_4_code (3 : Nat) (Option.some Jvm.ClassFile.FieldType.boolean)).before args0 about1 = true := code_word (m := ⟨3, 0⟩) (meth := k3m0) (c := k3c0) (by decide +kernel) rfl rfl rfl (by decide +kernel)
set_option maxRecDepth 65536 in
theorem w_c3 : (Jvm.Cond.code ({ cls := "java/util/Arrays", name := "binarySearch", desc := "([II)I" } : Jvm.MethodName) jdk_65_method_57_code (2 : Nat) (Option.some Jvm.ClassFile.FieldType.int)).before args0 about1 = true := code_word (m := ⟨4, 1⟩) (meth := k4m1) (c := k4c1) (by decide +kernel) rfl rfl rfl (by decide +kernel)
set_option maxRecDepth 65536 in
theorem w_c4 : (Jvm.Cond.code ({ cls := "java/util/Arrays", name := "binarySearch0", desc := "([IIII)I" } : Jvm.MethodName) jdk_65_method_59_code (8 : Nat) (Option.some Jvm.ClassFile.FieldType.int)).before args0 about1 = true := code_word (m := ⟨4, 2⟩) (meth := k4m2) (c := k4c2) (by decide +kernel) rfl rfl rfl (by decide +kernel)
set_option maxRecDepth 65536 in
theorem w_c5 : (Jvm.Cond.code ({ cls := "com/example/termwell/termwell/core/text/CharClassesPerlPinLaw", name := "expected", desc := "(II)Z" } : Jvm.MethodName) method_2_code (2 : Nat) (Option.some Jvm.ClassFile.FieldType.boolean)).before args0 about1 = true := code_word (m := ⟨1, 1⟩) (meth := k1m1) (c := k1c1) (by decide +kernel) rfl rfl rfl (by decide +kernel)
def codes1 : List Jvm.Cond := [Jvm.Cond.code x code maxLocals ret, Jvm.Cond.code ({ cls := "com/example/termwell/termwell/core/text/CharClasses", name := "perl", desc := "(C)Lcom/example/termwell/termwell/core/text/CodePointSet;" } : Jvm.MethodName) prog_15_method_2_code (1 : Nat) (Option.some (Jvm.ClassFile.FieldType.object "com/example/termwell/termwell/core/text/CodePointSet")), Jvm.Cond.code ({ cls := "com/example/termwell/termwell/core/text/CodePointSet", name := "contains", desc := "(I)Z" } : Jvm.MethodName) prog_19_method_4_code (3 : Nat) (Option.some Jvm.ClassFile.FieldType.boolean), Jvm.Cond.code ({ cls := "java/util/Arrays", name := "binarySearch", desc := "([II)I" } : Jvm.MethodName) jdk_65_method_57_code (2 : Nat) (Option.some Jvm.ClassFile.FieldType.int), Jvm.Cond.code ({ cls := "java/util/Arrays", name := "binarySearch0", desc := "([IIII)I" } : Jvm.MethodName) jdk_65_method_59_code (8 : Nat) (Option.some Jvm.ClassFile.FieldType.int), Jvm.Cond.code ({ cls := "com/example/termwell/termwell/core/text/CharClassesPerlPinLaw", name := "expected", desc := "(II)Z" } : Jvm.MethodName) method_2_code (2 : Nat) (Option.some Jvm.ClassFile.FieldType.boolean)]
set_option maxRecDepth 65536 in
theorem codes_eq : words1.filter isCode = codes1 := rfl
theorem w_codes : ∀ c ∈ words1.filter isCode, c.before args0 about1 = true := by
  rw [codes_eq]
  intro c hc
  simp only [codes1, List.mem_cons, List.not_mem_nil, or_false] at hc
  rcases hc with rfl | rfl | rfl | rfl | rfl | rfl
  · exact w_c0
  · exact w_c1
  · exact w_c2
  · exact w_c3
  · exact w_c4
  · exact w_c5
set_option maxRecDepth 65536 in
theorem w_t1 : (words1.take 24).all (fun c => isCode c || c.before args0 about1) = true := by decide +kernel
set_option maxRecDepth 65536 in
theorem w_t2 : (words1.drop 24).all (fun c => isCode c || c.before args0 about1) = true := by decide +kernel
theorem w_tables : (allAtoms (Jvm.Cond.code x code maxLocals ret :: tables_1)).before args0 about1 = true := by
  rw [allAtoms_all]
  show words1.all (fun c => c.before args0 about1) = true
  refine all_split ?_ w_codes
  rw [← List.take_append_drop 24 words1, List.all_append, w_t1, w_t2]
  rfl
set_option maxRecDepth 65536 in
theorem w_case : (Jvm.Cond.and given_1 narrow_1).before args0 about1 = true := by decide +kernel
theorem w_applies : (headSpec (Jvm.Cond.code x code maxLocals ret :: tables_1) room_1).applies x e0.platform about1 = true :=
  (Spec.applies_iff w_frames).mpr ⟨w_running, w_runnable, w_alone, w_named, w_hears, w_ripe, w_room, w_tables⟩
theorem atStart : AtStart classFile x code maxLocals ret World_1 tables_1 room_1 Calls_1 rest_1 Pre_1 launch0 p0 e0 about1 theMethod args0 below0 :=
  ⟨lists_1, trivial, launch0.admits_env _ _ _, launch0.least_env, fairChoices_fair.cas, fairChoices_fair.clock, w_frames, w_args, w_heap, w_applies, trivial, trivial, w_case⟩
end start1
theorem witness_1 : WitnessClaimed_1 := ⟨start1.p0, start1.e0, start1.about1, start1.theMethod, start1.args0, start1.below0, start1.atStart⟩
end Jvm.Pilot.@@N@@
